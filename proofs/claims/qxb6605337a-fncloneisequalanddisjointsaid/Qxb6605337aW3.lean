import Derived.Test.Qxb6605337aW2
namespace Go.Proofs.Qxb6605337a
open Go.RowKit

/-- cloneKeys: the same keys, nil where it was nil. -/
theorem cloneKeys_any (a : Option Addr) (n c : Nat) (D : KD) (w : World) (hn : n ≤ 32768) (hsl : ∀ i, i < n → D.sl i ≤ 1048576) (hnl : ∀ i, i < n → D.nl i = true → D.sl i = 0) (hz : a.isNone = true → n = 0) (hK : Keys w a n D) :
    Calls Try.prog 9 #[.slice a n c] w fun e w' => ∃ a' c', e = .returned (.slice a' n c') ∧ a'.isNone = a.isNone ∧ Below w.heap.size w w' ∧ Keys w' a' n D := by
  cases a with
  | none =>
    obtain rfl := hz rfl
    exact (cloneKeys_nil 0 c w).mono fun e w' ⟨he, hw⟩ => ⟨none, 0, he, rfl, hw ▸ Below.refl _ _, .inl rfl⟩
  | some ad => exact (cloneKeys_some ad n c D w hn hsl hnl hK).mono fun e w' ⟨he, hb, hr⟩ => ⟨_, _, he, rfl, hb, hr.keys⟩

theorem KRow.setOther {w : World} {B : Nat} {t : TypeId} {n k : Nat} {D : KD} (h : KRow w B t n k D) {p : Addr} (hp : p.block < B) (v : Value) : KRow (w.setCell p v) B t n k D := by
  obtain ⟨F, sa, sc, hr, hi⟩ := h
  refine ⟨F, sa, sc, hr.setOther (by omega) v, fun i hik => ?_⟩
  obtain ⟨h1, h2, h3, h4⟩ := hi i hik
  exact ⟨h1, h2, ⟨h3.1, h3.2.setOther (fun x hx => by have := h4 x hx; omega) v⟩, h4⟩

theorem build_nil (t s : Int) (n c : Nat) (w : World) :
    Calls Try.prog 10 #[.int .u8 t, .slice none n c, .int .u8 s] w fun e w' => e = .returned (.agg #[.int .u8 t, .slice none 0 0, .int .u8 s]) ∧ Below w.heap.size w w' := by
  have k := fun (w : World) (a : Option Addr) (n c n' c' : Nat) => run_neq_slice_nil_any (P := Try.prog) w 22 41 a n c n' c' Try.underlying22
  go_enter Try.func10, Try.ntmps10
  go_wp2
  exact bodyPost_ret (v := .agg #[.int .u8 t, .slice none 0 0, .int .u8 s]) (by simp [results, Try.results10, go_sem]) rfl ⟨rfl, (Below.refl _ _).alloc (Nat.le_refl _) _⟩

set_option maxRecDepth 100000 in
set_option maxHeartbeats 2000000 in
theorem build_some (t s : Int) (ad : Addr) (n c : Nat) (D : KD) (w : World) (hn : n ≤ 32768) (hsl : ∀ i, i < n → D.sl i ≤ 1048576) (hnl : ∀ i, i < n → D.nl i = true → D.sl i = 0) (hK : Keys w (some ad) n D) :
    Calls Try.prog 10 #[.int .u8 t, .slice (some ad) n c, .int .u8 s] w fun e w' => e = .returned (.agg #[.int .u8 t, .slice (some ⟨w.heap.size + 1, 0, none⟩) n n, .int .u8 s]) ∧ Below w.heap.size w w' ∧ KRow w' (w.heap.size + 1) 38 n n D := by
  have k0 := fun (w : World) (a : Option Addr) (n c n' c' : Nat) => run_neq_slice_nil_any (P := Try.prog) w 22 41 a n c n' c' Try.underlying22
  have hmk := mk_keys 27 38 Try.underlying27 Try.info38 n (by omega)
  have HK : Hid (Keys w (some ad) n D) := hK
  have HSL : Hid (∀ i, i < n → D.sl i ≤ 1048576) := hsl
  have HNL : Hid (∀ i, i < n → D.nl i = true → D.sl i = 0) := hnl
  clear hK hsl hnl
  go_enter Try.func10, Try.ntmps10
  go_wp2
  clear hmk k0
  go_loopg [8] n (fun g i wr => ∃ k : Nat, k + g = n ∧ i = .int .i64 k ∧ Below (w.heap.size + 1) (w.alloc (.cells #[.int .u8 0, .slice none 0 0, .int .u8 0] 29)) wr ∧ KRow wr (w.heap.size + 1) 38 n k D)
  case atStart =>
    have h := rowIs_keys (w.alloc (.cells #[.int .u8 0, .slice none 0 0, .int .u8 0] 29)) 38 n
    rw [World.size_alloc] at h
    exact ⟨0, by omega, rfl, (Below.refl _ _).alloc (by rw [World.size_alloc]; omega) _, _, fun _ => none, fun _ => 0, h, fun i h => by omega⟩
  case round =>
    obtain ⟨k, hk, rfl, hb, hr⟩ := hrel
    have BW : Below w.heap.size w wr := ((Below.refl w.heap.size w).alloc (Nat.le_refl _) _).trans (hb.mono (by omega))
    have BEL : Hid (Below (w.heap.size + 1) (w.alloc (.cells #[.int .u8 0, .slice none 0 0, .int .u8 0] 29)) wr) := hb
    have ROW : Hid (KRow wr (w.heap.size + 1) 38 n k D) := hr
    by_cases hlt : k < n
    · have hlt' : (k : Int) < (n : Int) := by omega
      rcases HK.out with h | ⟨b, off, sa, sc, e, hc⟩
      · omega
      obtain ⟨c1, c2, c3⟩ := hc k hlt
      have lb : b < w.heap.size := World.block_lt_of_cell? w ⟨b, off + k * 2, none⟩ c1
      have d1 := (BW.cell (p := ⟨b, off + k * 2, none⟩) lb).trans c1
      have d2 := (BW.cell (p := ⟨b, off + k * 2 + 1, none⟩) lb).trans c2
      have C3 : Hid (Sec w D k (sa k)) := c3
      obtain ⟨F, _, _, hF, _⟩ := hr
      have f0 := hF.frozen (k * 2)
      have f1 := hF.frozen (k * 2 + 1)
      have y0 := hF.cell (i := k * 2) (by omega)
      have y1 := hF.cell (i := k * 2 + 1) (by omega)
      have Y1 : Hid ((wr.setCell ⟨w.heap.size + 1, k * 2, none⟩ (.int .u8 (D.id k))).cell? ⟨w.heap.size + 1, k * 2 + 1, none⟩ = some (F (k * 2 + 1))) := by
        have h := (hF.set (k * 2) (.int .u8 (D.id k))).cell (i := k * 2 + 1) (by omega)
        rw [if_neg (by omega)] at h
        exact h
      have lt0 : w.heap.size + 1 < wr.heap.size := hF.lt
      have HBW : Hid (Below w.heap.size w wr) := BW
      injection e with e
      subst e
      clear hb hc c1 c2 c3 hF BW
      go_wp2_with fail
      have B1 : Below w.heap.size w (wr.setCell ⟨w.heap.size + 1, k * 2, none⟩ (.int .u8 (D.id k))) := HBW.out.setCell (by simp) _
      have B1' : Below (w.heap.size + 1) (w.alloc (.cells #[.int .u8 0, .slice none 0 0, .int .u8 0] 29)) (wr.setCell ⟨w.heap.size + 1, k * 2, none⟩ (.int .u8 (D.id k))) := BEL.out.setCell (Nat.le_refl _) _
      have S1 := C3.out.below B1 (Nat.le_refl _)
      refine (copyB_any (sa k) (D.sl k) (sc k) (D.sb k) _ (HSL.out k hlt) (fun h => HNL.out k hlt (by rw [← S1.1]; exact h)) S1.2).mono ?_
      rintro e w2 ⟨a', c', rfl, hnn, hb2, hby, hnew⟩
      have SZ : (wr.setCell ⟨w.heap.size + 1, k * 2, none⟩ (.int .u8 (D.id k))).heap.size = wr.heap.size := by simp [World.setCell]
      have STEP : Hid (KRow (w2.setCell ⟨w.heap.size + 1, k * 2 + 1, none⟩ (.slice a' (D.sl k) c')) (w.heap.size + 1) 38 n (k + 1) D) :=
        ROW.out.step hlt hb2 ⟨hnn.trans S1.1, hby⟩ (fun x hx => by have := hnew x hx; rw [SZ] at this; omega)
      have B2 : Hid (Below (w.heap.size + 1) (w.alloc (.cells #[.int .u8 0, .slice none 0 0, .int .u8 0] 29)) w2) := B1'.trans (hb2.mono (by rw [SZ]; omega))
      have e0 : w2.cell? ⟨w.heap.size + 1, k * 2 + 1, none⟩ = some (F (k * 2 + 1)) := by
        rw [hb2.cell (p := ⟨w.heap.size + 1, k * 2 + 1, none⟩) (by rw [SZ]; exact lt0)]
        exact Y1.out
      have e1 : w2.frozen? ⟨w.heap.size + 1, k * 2 + 1, none⟩ = false := by
        rw [hb2.frozen (p := ⟨w.heap.size + 1, k * 2 + 1, none⟩) (by rw [SZ]; exact lt0), World.frozen?_setCell]
        exact f1
      clear hb2 hby hnew SZ S1 B1 B1' hnn
      go_wp2
      go_roundg (n - (k + 1))
      case measure => omega
      case rel => exact ⟨k + 1, by omega, by go_num, B2.out.setCell (Nat.le_refl _) _, STEP.out⟩
    · obtain rfl : k = n := by omega
      have g0 : wr.cell? ⟨w.heap.size, 0, none⟩ = some (.int .u8 0) := (hb.cell (p := ⟨w.heap.size, 0, none⟩) (by simp)).trans (by simp)
      have g1 : wr.cell? ⟨w.heap.size, 1, none⟩ = some (.slice none 0 0) := (hb.cell (p := ⟨w.heap.size, 1, none⟩) (by simp)).trans (by simp)
      have g2 : wr.cell? ⟨w.heap.size, 2, none⟩ = some (.int .u8 0) := (hb.cell (p := ⟨w.heap.size, 2, none⟩) (by simp)).trans (by simp)
      have z0 : ∀ j, wr.frozen? ⟨w.heap.size, j, none⟩ = false := fun j => (hb.frozen (p := ⟨w.heap.size, j, none⟩) (by simp)).trans (by simp)
      have HBW : Hid (Below w.heap.size w wr) := BW
      clear hb hr BW
      go_wp2
      exact bodyPost_ret (v := .agg #[.int .u8 t, .slice (some ⟨w.heap.size + 1, 0, none⟩) k k, .int .u8 s]) (by simp [results, Try.results10, go_sem, g0, g1, g2]) rfl
        ⟨rfl, ((HBW.out.setCell (Nat.le_refl _) _).setCell (Nat.le_refl _) _).setCell (Nat.le_refl _) _, ((ROW.out.setOther (by simp) _).setOther (by simp) _).setOther (by simp) _⟩

/-- buildAuth: the keys anew, nil where it was nil. -/
theorem build_any (t s : Int) (a : Option Addr) (n c : Nat) (D : KD) (w : World) (hn : n ≤ 32768) (hsl : ∀ i, i < n → D.sl i ≤ 1048576) (hnl : ∀ i, i < n → D.nl i = true → D.sl i = 0) (hz : a.isNone = true → n = 0) (hK : Keys w a n D) :
    Calls Try.prog 10 #[.int .u8 t, .slice a n c, .int .u8 s] w fun e w' => ∃ a' c', e = .returned (.agg #[.int .u8 t, .slice a' n c', .int .u8 s]) ∧ a'.isNone = a.isNone ∧ Below w.heap.size w w' ∧ Keys w' a' n D := by
  cases a with
  | none =>
    obtain rfl := hz rfl
    exact (build_nil t s 0 c w).mono fun e w' ⟨he, hb⟩ => ⟨none, 0, he, rfl, hb, .inl rfl⟩
  | some ad => exact (build_some t s ad n c D w hn hsl hnl hK).mono fun e w' ⟨he, hb, hr⟩ => ⟨_, _, he, rfl, hb, hr.keys⟩

/-! ### sameAsArgs -/

set_option maxHeartbeats 1000000 in
theorem same_zero (t s : Int) (ba c1 c2 : Nat) (a1 a2 : Option Addr) (w : World) (hnn : a1.isNone = a2.isNone)
    (f0 : w.cell? ⟨ba, 0, none⟩ = some (.int .u8 t)) (f1 : w.cell? ⟨ba, 1, none⟩ = some (.slice a1 0 c1)) (f2 : w.cell? ⟨ba, 2, none⟩ = some (.int .u8 s)) :
    Calls Try.prog 13 #[.pointer (some ⟨ba, 0, none⟩), .int .u8 t, .slice a2 0 c2, .int .u8 s] w fun e w' => e = .returned (.bool true) ∧ Drn w w' := by
  have k1 := fun (w : World) (a : Option Addr) (n c n' c' : Nat) => Lib.run_eql_slice_nil (P := Try.prog) w 22 41 a n c n' c' Try.underlying22
  have k2 := fun (w : World) (a : Option Addr) (n c n' c' : Nat) => Lib.run_eql_slice_nil (P := Try.prog) w 27 38 a n c n' c' Try.underlying27
  have e0 : (t != t) = false := by simp
  have e2 : (s != s) = false := by simp
  have e3 : (a2.isNone != a2.isNone) = false := by simp
  go_enter Try.func13, Try.ntmps13
  go_wp2
  refine wp_loop_rounds 1 ?_
  rw [rounds_succ]
  go_wp2
  go_ret
  exact ⟨rfl, Drn.refl _⟩

set_option maxRecDepth 100000 in
set_option maxHeartbeats 4000000 in
theorem same_some (t s : Int) (ba n c1 c2 b1 o1 b2 o2 : Nat) (s1 s2 : Nat → Option Addr) (q1 q2 : Nat → Nat) (D : KD) (w : World) (hn : n ≤ 32768) (hsl : ∀ i, i < n → D.sl i ≤ 1048576)
    (f0 : w.cell? ⟨ba, 0, none⟩ = some (.int .u8 t)) (f1 : w.cell? ⟨ba, 1, none⟩ = some (.slice (some ⟨b1, o1, none⟩) n c1)) (f2 : w.cell? ⟨ba, 2, none⟩ = some (.int .u8 s))
    (h1 : ∀ i, i < n → w.cell? ⟨b1, o1 + i * 2, none⟩ = some (.int .u8 (D.id i)) ∧ w.cell? ⟨b1, o1 + i * 2 + 1, none⟩ = some (.slice (s1 i) (D.sl i) (q1 i)) ∧ Sec w D i (s1 i))
    (h2 : ∀ i, i < n → w.cell? ⟨b2, o2 + i * 2, none⟩ = some (.int .u8 (D.id i)) ∧ w.cell? ⟨b2, o2 + i * 2 + 1, none⟩ = some (.slice (s2 i) (D.sl i) (q2 i)) ∧ Sec w D i (s2 i)) :
    Calls Try.prog 13 #[.pointer (some ⟨ba, 0, none⟩), .int .u8 t, .slice (some ⟨b2, o2, none⟩) n c2, .int .u8 s] w fun e w' => e = .returned (.bool true) ∧ Drn w w' := by
  have k1 := fun (w : World) (a : Option Addr) (n c n' c' : Nat) => Lib.run_eql_slice_nil (P := Try.prog) w 22 41 a n c n' c' Try.underlying22
  have k2 := fun (w : World) (a : Option Addr) (n c n' c' : Nat) => Lib.run_eql_slice_nil (P := Try.prog) w 27 38 a n c n' c' Try.underlying27
  have k3 := fun (w : World) (a : Option Addr) (n c n' c' : Nat) => Lib.run_eql_slice_nil (P := Try.prog) w 36 5 a n c n' c' Try.underlying36
  have H1 : Hid (∀ i, i < n → w.cell? ⟨b1, o1 + i * 2, none⟩ = some (.int .u8 (D.id i)) ∧ w.cell? ⟨b1, o1 + i * 2 + 1, none⟩ = some (.slice (s1 i) (D.sl i) (q1 i)) ∧ Sec w D i (s1 i)) := h1
  have H2 : Hid (∀ i, i < n → w.cell? ⟨b2, o2 + i * 2, none⟩ = some (.int .u8 (D.id i)) ∧ w.cell? ⟨b2, o2 + i * 2 + 1, none⟩ = some (.slice (s2 i) (D.sl i) (q2 i)) ∧ Sec w D i (s2 i)) := h2
  have HSL : Hid (∀ i, i < n → D.sl i ≤ 1048576) := hsl
  have e0 : (t != t) = false := by simp
  have e2 : (s != s) = false := by simp
  have e4 : ((n : Int) != (n : Int)) = false := by simp
  clear h1 h2 hsl
  go_enter Try.func13, Try.ntmps13
  go_wp2
  clear k1 k2 e0 e2 e4 f0 f2
  go_loopg [9] n (fun g i wr => ∃ k : Nat, k + g = n ∧ i = .int .i64 k ∧ Drn w wr)
  case atStart => exact ⟨0, by omega, rfl, Drn.refl _⟩
  case round =>
    obtain ⟨k, hk, rfl, q, rfl⟩ := hrel
    have HQ : Hid (Drn w (w.drewN q)) := Drn.mk w q
    by_cases hlt : k < n
    · have hlt' : (k : Int) < (n : Int) := by omega
      obtain ⟨d1, d2, d3⟩ := H1.out k hlt
      obtain ⟨d4, d5, d6⟩ := H2.out k hlt
      have g1 : (D.id k != D.id k) = false := by simp
      have n1 : (s1 k).isNone = D.nl k := d3.1
      have n2 : (s2 k).isNone = D.nl k := d6.1
      have g2 : (D.nl k != D.nl k) = false := by simp
      have SB : Hid (∀ Q x, Calls Try.prog 18 #[.slice (s1 k) (D.sl k) (q1 k), .slice (s2 k) (D.sl k) (q2 k)] (w.drewN (Q + x)) fun e w' => e = .returned (.bool true) ∧ ∃ m, w' = w.drewN (Q + m)) := fun Q x =>
        (sameB_any (s1 k) (s2 k) (D.sl k) (q1 k) (q2 k) (D.sb k) (w.drewN (Q + x)) (HSL.out k hlt) (d3.2.below (below_drewN w w.heap.size _) (Nat.le_refl _)) (d6.2.below (below_drewN w w.heap.size _) (Nat.le_refl _))).mono
          fun e w' ⟨he, m, hm⟩ => ⟨he, x + m, by rw [hm, World.drewN_drewN, Nat.add_assoc]⟩
      clear d3 d6
      go_wp2
      go_quiet (fail)
      go_wp2
      go_quiet (fail)
      go_wp2
      go_quiet ((go_at_call 18; exact SB.out _ _))
      go_wp2
      go_roundg (n - (k + 1))
      case measure => omega
      case rel => exact ⟨k + 1, by omega, by go_num, by repeat (first | exact HQ.out | exact Drn.refl _ | apply Drn.step | apply Drn.drew)⟩
    · go_wp2
      go_ret
      exact ⟨rfl, HQ.out⟩

/-- sameAsArgs where it is the same. -/
theorem same_any (t s : Int) (ba n c1 c2 : Nat) (a1 a2 : Option Addr) (D : KD) (w : World) (hn : n ≤ 32768) (hsl : ∀ i, i < n → D.sl i ≤ 1048576) (hnn : a1.isNone = a2.isNone)
    (f0 : w.cell? ⟨ba, 0, none⟩ = some (.int .u8 t)) (f1 : w.cell? ⟨ba, 1, none⟩ = some (.slice a1 n c1)) (f2 : w.cell? ⟨ba, 2, none⟩ = some (.int .u8 s)) (h1 : Keys w a1 n D) (h2 : Keys w a2 n D) :
    Calls Try.prog 13 #[.pointer (some ⟨ba, 0, none⟩), .int .u8 t, .slice a2 n c2, .int .u8 s] w fun e w' => e = .returned (.bool true) ∧ Drn w w' := by
  by_cases hz : n = 0
  · subst hz
    exact same_zero t s ba c1 c2 a1 a2 w hnn f0 f1 f2
  · rcases h1 with h1 | ⟨b1, o1, s1, q1, rfl, h1⟩
    · exact absurd h1 hz
    rcases h2 with h2 | ⟨b2, o2, s2, q2, rfl, h2⟩
    · exact absurd h2 hz
    exact same_some t s ba n c1 c2 b1 o1 b2 o2 s1 s2 q1 q2 D w hn hsl f0 f1 f2 h1 h2
end Go.Proofs.Qxb6605337a
