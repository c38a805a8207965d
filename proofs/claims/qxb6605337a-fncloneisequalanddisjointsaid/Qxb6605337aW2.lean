import Derived.Test.Qxb6605337aW1
namespace Go.Proofs.Qxb6605337a
open Go.RowKit

theorem Try.info41 : (Try.prog.info? 41).map (fun i => (i.zero, i.size, i.bytes)) = some (some (.agg #[.int .u8 0, .slice none 0 0]), 2, 32) := by kernel_rfl
theorem Try.info38 : (Try.prog.info? 38).map (fun i => (i.zero, i.size, i.bytes)) = some (some (.agg #[.int .u8 0, .slice none 0 0]), 2, 32) := by kernel_rfl

theorem mk_keys (t e : TypeId) (hu : Try.prog.underlying t = some (.slice e)) (hinfo : (Try.prog.info? e).map (fun i => (i.zero, i.size, i.bytes)) = some (some (.agg #[.int .u8 0, .slice none 0 0]), 2, 32)) (n : Nat) (hc : n ≤ 65536) (w : World) :
    (Instr.makeSlice t (.int .i64 (n : Int)) (.int .i64 (n : Int))).run Try.prog w = .ok (.slice (some ⟨w.heap.size, 0, none⟩) n n) (w.alloc (.cells (madeCells #[.int .u8 0, .slice none 0 0] (n * 2)) e)) := by
  obtain ⟨i, hi, hz, hs, hb⟩ := info_parts hinfo
  have hr := run_make (P := Try.prog) w t e i _ hu hi hz .i64 .i64 (n : Int) (n : Int) (by omega) (by omega) (by rw [hb]; omega) (by omega)
  rw [hs] at hr
  simp only [Int.toNat_natCast] at hr
  have hc : (Value.agg #[.int .u8 0, .slice none 0 0]).cells = #[.int .u8 0, .slice none 0 0] := by simp [Value.cells]
  rw [hc] at hr
  exact hr

/-- The cells of n keys that make has laid. -/
def zeroKey (i : Nat) : Value := if i % 2 = 0 then .int .u8 0 else .slice none 0 0

theorem rowIs_keys (w : World) (e : TypeId) (c : Nat) : (w.alloc (.cells (madeCells #[.int .u8 0, .slice none 0 0] (c * 2)) e)).rowIs w.heap.size e (2 * c) zeroKey := by
  refine ⟨_, Deep.blk_alloc_new _ _, by rw [size_madeCells]; omega, fun i hi => ?_⟩
  have h2 : i % 2 = 0 ∨ i % 2 = 1 := by omega
  have h3 : i < c * 2 := by omega
  rcases h2 with h | h <;> simp [madeCells, h3, h, zeroKey]

/-- The call's own row of n keys, the first k filled. -/
def KRow (w : World) (B : Nat) (t : TypeId) (n k : Nat) (D : KD) : Prop :=
  ∃ (F : Nat → Value) (sa : Nat → Option Addr) (sc : Nat → Nat), w.rowIs B t (2 * n) F ∧ ∀ i, i < k →
    F (i * 2) = .int .u8 (D.id i) ∧ F (i * 2 + 1) = .slice (sa i) (D.sl i) (sc i) ∧ Sec w D i (sa i) ∧ ∀ x, sa i = some x → B < x.block

theorem Bytes.setOther {w : World} {a : Option Addr} {n : Nat} {f : Nat → Int} (h : Bytes w a n f) {p : Addr} (hp : ∀ x, a = some x → x.block ≠ p.block) (v : Value) : Bytes (w.setCell p v) a n f := by
  rcases h with h | ⟨b, off, rfl, hc⟩
  · exact .inl h
  · refine .inr ⟨b, off, rfl, fun i hi => ?_⟩
    have hb : (w.setCell p v).heap[b]? = w.heap[b]? := Deep.blk_setCell_other _ _ _ _ (hp _ rfl)
    rw [World.cell?_of_block (w := w) (a := ⟨b, off + i, none⟩) hb]
    exact hc i hi

theorem KRow.step {w w2 : World} {B : Nat} {t : TypeId} {n k : Nat} {D : KD} (h : KRow w B t n k D) (hk : k < n) {a : Option Addr} {c : Nat}
    (hb : Below (w.setCell ⟨B, k * 2, none⟩ (.int .u8 (D.id k))).heap.size (w.setCell ⟨B, k * 2, none⟩ (.int .u8 (D.id k))) w2) (hs : Sec w2 D k a) (hn : ∀ x, a = some x → B < x.block) :
    KRow (w2.setCell ⟨B, k * 2 + 1, none⟩ (.slice a (D.sl k) c)) B t n (k + 1) D := by
  obtain ⟨F, sa, sc, hr, hi⟩ := h
  have hr1 := hr.set (k * 2) (.int .u8 (D.id k))
  have hr2 := (rowIs_below hr1 hb hr1.lt).set (k * 2 + 1) (.slice a (D.sl k) c)
  refine ⟨_, fun i => if i = k then a else sa i, fun i => if i = k then c else sc i, hr2, fun i hik => ?_⟩
  by_cases e : i = k
  · subst e
    simp only [if_true]
    refine ⟨?_, ?_, ⟨hs.1, hs.2.setOther (fun x hx => ?_) _⟩, hn⟩
    · rw [if_neg (by omega)]
    · trivial
    · have := hn x hx; simp; omega
  · obtain ⟨h1, h2, h3, h4⟩ := hi i (by omega)
    simp only [e, if_false]
    rw [if_neg (by omega), if_neg (by omega), if_neg (by omega), if_neg (by omega)]
    refine ⟨h1, h2, ⟨h3.1, ?_⟩, h4⟩
    have g1 := h3.2.setOther (p := ⟨B, k * 2, none⟩) (fun x hx => by have := h4 x hx; simp; omega) (.int .u8 (D.id k))
    exact (g1.below hb (Nat.le_refl _)).setOther (fun x hx => by have := h4 x hx; simp; omega) _

theorem KRow.keys {w : World} {B : Nat} {t : TypeId} {n : Nat} {D : KD} (h : KRow w B t n n D) : Keys w (some ⟨B, 0, none⟩) n D := by
  obtain ⟨F, sa, sc, hr, hi⟩ := h
  refine .inr ⟨B, 0, sa, sc, rfl, fun i hin => ?_⟩
  obtain ⟨h1, h2, h3, _⟩ := hi i hin
  refine ⟨?_, ?_, h3⟩
  · rw [Nat.zero_add, hr.cell (by omega), h1]
  · rw [Nat.zero_add, hr.cell (by omega), h2]

theorem cloneKeys_nil (n c : Nat) (w : World) :
    Calls Try.prog 9 #[.slice none n c] w fun e w' => e = .returned (.slice none 0 0) ∧ w' = w := by
  have k := fun (w : World) (a : Option Addr) (n c n' c' : Nat) => Lib.run_eql_slice_nil (P := Try.prog) w 22 41 a n c n' c' Try.underlying22
  go_enter Try.func9, Try.ntmps9
  go_wp2
  go_ret
  exact ⟨rfl, rfl⟩

set_option maxRecDepth 100000 in
set_option maxHeartbeats 2000000 in
theorem cloneKeys_some (ad : Addr) (n c : Nat) (D : KD) (w : World) (hn : n ≤ 32768) (hsl : ∀ i, i < n → D.sl i ≤ 1048576) (hnl : ∀ i, i < n → D.nl i = true → D.sl i = 0) (hK : Keys w (some ad) n D) :
    Calls Try.prog 9 #[.slice (some ad) n c] w fun e w' => e = .returned (.slice (some ⟨w.heap.size, 0, none⟩) n n) ∧ Below w.heap.size w w' ∧ KRow w' w.heap.size 41 n n D := by
  have k0 := fun (w : World) (a : Option Addr) (n c n' c' : Nat) => Lib.run_eql_slice_nil (P := Try.prog) w 22 41 a n c n' c' Try.underlying22
  have hmk := mk_keys 22 41 Try.underlying22 Try.info41 n (by omega)
  have HK : Hid (Keys w (some ad) n D) := hK
  have HSL : Hid (∀ i, i < n → D.sl i ≤ 1048576) := hsl
  have HNL : Hid (∀ i, i < n → D.nl i = true → D.sl i = 0) := hnl
  clear hK hsl hnl
  go_enter Try.func9, Try.ntmps9
  go_wp2
  clear hmk k0
  go_loopg [4] n (fun g i wr => ∃ k : Nat, k + g = n ∧ i = .int .i64 k ∧ Below w.heap.size w wr ∧ KRow wr w.heap.size 41 n k D)
  case atStart => exact ⟨0, by omega, rfl, (Below.refl _ _).alloc (Nat.le_refl _) _, _, fun _ => none, fun _ => 0, rowIs_keys w 41 n, fun i h => by omega⟩
  case round =>
    obtain ⟨k, hk, rfl, hb, hr⟩ := hrel
    have BEL : Hid (Below w.heap.size w wr) := hb
    have ROW : Hid (KRow wr w.heap.size 41 n k D) := hr
    by_cases hlt : k < n
    · have hlt' : (k : Int) < (n : Int) := by omega
      rcases HK.out with h | ⟨b, off, sa, sc, e, hc⟩
      · omega
      obtain ⟨c1, c2, c3⟩ := hc k hlt
      have lb : b < w.heap.size := World.block_lt_of_cell? w ⟨b, off + k * 2, none⟩ c1
      have d1 := (hb.cell (p := ⟨b, off + k * 2, none⟩) lb).trans c1
      have d2 := (hb.cell (p := ⟨b, off + k * 2 + 1, none⟩) lb).trans c2
      have C3 : Hid (Sec w D k (sa k)) := c3
      obtain ⟨F, _, _, hF, _⟩ := hr
      have f0 := hF.frozen (k * 2)
      have f1 := hF.frozen (k * 2 + 1)
      have y0 := hF.cell (i := k * 2) (by omega)
      have y1 := hF.cell (i := k * 2 + 1) (by omega)
      have Y1 : Hid ((wr.setCell ⟨w.heap.size, k * 2, none⟩ (.int .u8 (D.id k))).cell? ⟨w.heap.size, k * 2 + 1, none⟩ = some (F (k * 2 + 1))) := by
        have h := (hF.set (k * 2) (.int .u8 (D.id k))).cell (i := k * 2 + 1) (by omega)
        rw [if_neg (by omega)] at h
        exact h
      have lt0 : w.heap.size < wr.heap.size := hF.lt
      injection e with e
      subst e
      clear hb hc c1 c2 c3 hF
      go_wp2_with fail
      have B1 : Below w.heap.size w (wr.setCell ⟨w.heap.size, k * 2, none⟩ (.int .u8 (D.id k))) := BEL.out.setCell (Nat.le_refl _) _
      have S1 := C3.out.below B1 (Nat.le_refl _)
      refine (copyB_any (sa k) (D.sl k) (sc k) (D.sb k) _ (HSL.out k hlt) (fun h => HNL.out k hlt (by rw [← S1.1]; exact h)) S1.2).mono ?_
      rintro e w2 ⟨a', c', rfl, hnn, hb2, hby, hnew⟩
      have SZ : (wr.setCell ⟨w.heap.size, k * 2, none⟩ (.int .u8 (D.id k))).heap.size = wr.heap.size := by simp [World.setCell]
      have STEP : Hid (KRow (w2.setCell ⟨w.heap.size, k * 2 + 1, none⟩ (.slice a' (D.sl k) c')) w.heap.size 41 n (k + 1) D) :=
        ROW.out.step hlt hb2 ⟨hnn.trans S1.1, hby⟩ (fun x hx => by have := hnew x hx; rw [SZ] at this; omega)
      have B2 : Hid (Below w.heap.size w w2) := bel_trans B1 hb2
      have e0 : w2.cell? ⟨w.heap.size, k * 2 + 1, none⟩ = some (F (k * 2 + 1)) := by
        rw [hb2.cell (p := ⟨w.heap.size, k * 2 + 1, none⟩) (by rw [SZ]; exact lt0)]
        exact Y1.out
      have e1 : w2.frozen? ⟨w.heap.size, k * 2 + 1, none⟩ = false := by
        rw [hb2.frozen (p := ⟨w.heap.size, k * 2 + 1, none⟩) (by rw [SZ]; exact lt0), World.frozen?_setCell]
        exact f1
      clear hb2 hby hnew SZ S1 B1 hnn
      go_wp2
      go_roundg (n - (k + 1))
      case measure => omega
      case rel => exact ⟨k + 1, by omega, by go_num, B2.out.setCell (Nat.le_refl _) _, STEP.out⟩
    · obtain rfl : k = n := by omega
      clear hb hr
      go_wp2
      go_ret
      exact ⟨rfl, BEL.out, ROW.out⟩
end Go.Proofs.Qxb6605337a
