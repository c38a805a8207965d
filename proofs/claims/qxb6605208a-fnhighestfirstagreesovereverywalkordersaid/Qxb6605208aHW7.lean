import Derived.Test.Qxb6605208aHW6
namespace Go.Proofs.Qxb6605208a
open Go.RowKit
open HP (WOK IsH mx)

theorem Try.info46 : (Try.prog.info? 46).map (fun i => (i.zero, i.size, i.bytes)) = some (some (.agg #[.string ByteArray.empty, .string ByteArray.empty]), 2, 32) := by kernel_rfl

theorem mk_uids (n : Nat) (hc : n ≤ 8388608) (w : World) :
    (Instr.makeSlice 44 (.int .i64 (n : Int)) (.int .i64 (n : Int))).run Try.prog w = .ok (.slice (some ⟨w.heap.size, 0, none⟩) n n) (w.alloc (.cells (madeCells #[.string ByteArray.empty, .string ByteArray.empty] (n * 2)) 46)) := by
  obtain ⟨i, hi, hz, hs, hb⟩ := info_parts Try.info46
  have hr := run_make (P := Try.prog) w 44 46 i _ Try.underlying44 hi hz .i64 .i64 (n : Int) (n : Int) (by omega) (by omega) (by rw [hb]; omega) (by omega)
  rw [hs] at hr
  simp only [Int.toNat_natCast] at hr
  have hc : (Value.agg #[.string ByteArray.empty, .string ByteArray.empty]).cells = #[.string ByteArray.empty, .string ByteArray.empty] := by simp [Value.cells]
  rw [hc] at hr
  exact hr

theorem rowIs_uids (w : World) (c : Nat) : (w.alloc (.cells (madeCells #[.string ByteArray.empty, .string ByteArray.empty] (c * 2)) 46)).rowIs w.heap.size 46 (2 * c) (fun _ => .string ByteArray.empty) := by
  refine ⟨_, Deep.blk_alloc_new _ _, by rw [size_madeCells]; omega, fun i hi => ?_⟩
  have h2 : i % 2 = 0 ∨ i % 2 = 1 := by omega
  have h3 : i < c * 2 := by omega
  rcases h2 with h | h <;> simp [madeCells, h3, h]

theorem bel_alloc' {w w' : World} (h : Below w.heap.size w w') (o : Obj) : Below w.heap.size w (w'.alloc o) := h.alloc h.size o

set_option maxRecDepth 100000 in
set_option maxHeartbeats 2000000 in
theorem zzhf_any (a0 a1 a2 a3 a4 a5 : Option Addr) (n ns nl m nw c0 c1 c2 c3 c4 c5 : Nat) (s0 s1 : Nat → ByteArray) (S L : Nat → Int) (M W H : Nat → Nat) (w : World) (h0 : Strs w a0 n s0) (h1 : Strs w a1 n s1)
    (hS : Ints w a2 ns S) (hL : Ints w a3 nl L) (hM : Ints w a4 m (fun i => (M i : Int))) (hW : Ints w a5 nw (fun i => (W i : Int))) (hn : n ≤ 4096) (hns : ns ≤ 8192) (hnl : nl ≤ 8192) (hm : m ≤ 4096) (hnw : nw ≤ 4096) (hc3 : nl ≤ c3)
    (g : GOK n ns nl S L) (mlt : ∀ i, i < m → M i < n) (wok : WOK n (cntN ns S) (parN ns S L) W nw) (isH : IsH n (cntN ns S) (parN ns S L) H) (hb : ∀ k, H k ≤ 4096) :
    Calls Try.prog 19 #[.slice a0 n c0, .slice a1 n c1, .slice a2 ns c2, .slice a3 nl c3, .slice a4 m c4, .slice a5 nw c5] w fun e w' => ∃ (a' : Option Addr) (c' : Nat) (A dep : Nat → Nat) (hh : Nat), e = .returned (.slice a' m c') ∧ Below w.heap.size w w' ∧ Ints w' a' m (fun i => (A i : Int)) ∧
      (∀ i, i < m → H (M i) + dep i = hh) ∧ HS.lst m A = HS.sorted dep M m (hh + 1) := by
  have H0 : Hid (Strs w a0 n s0) := h0
  have H1 : Hid (Strs w a1 n s1) := h1
  have HS' : Hid (Ints w a2 ns S ∧ Ints w a3 nl L ∧ Ints w a4 m (fun i => (M i : Int)) ∧ Ints w a5 nw (fun i => (W i : Int))) := ⟨hS, hL, hM, hW⟩
  have HG : Hid (GOK n ns nl S L ∧ (∀ i, i < m → M i < n) ∧ WOK n (cntN ns S) (parN ns S L) W nw ∧ IsH n (cntN ns S) (parN ns S L) H ∧ ∀ k, H k ≤ 4096) := ⟨g, mlt, wok, isH, hb⟩
  have HB : Hid (n ≤ 4096 ∧ ns ≤ 8192 ∧ nl ≤ 8192 ∧ m ≤ 4096 ∧ nw ≤ 4096 ∧ nl ≤ c3) := ⟨hn, hns, hnl, hm, hnw, hc3⟩
  clear h0 h1 hS hL hM hW g mlt wok isH hb hns hnl hm hnw hc3
  have hmk := mk_uids n (by omega)
  go_enter Try.func19, Try.ntmps19
  go_wp2
  clear hmk
  go_loopg [15] n (fun g i wr => ∃ (k : Nat) (f : Nat → Value), k + g = n ∧ i = .int .i64 k ∧ Below w.heap.size w wr ∧ wr.rowIs w.heap.size 46 (2 * n) f)
  case atStart => exact ⟨0, _, by omega, rfl, (Below.refl _ _).alloc (Nat.le_refl _) _, rowIs_uids w n⟩
  case round =>
    obtain ⟨k, f, hk, rfl, hbel, hr⟩ := hrel
    have BEL : Hid (Below w.heap.size w wr) := hbel
    have ROW : Hid (wr.rowIs w.heap.size 46 (2 * n) f) := hr
    clear hbel hr
    by_cases hlt : k < n
    · have hlt' : (k : Int) < (n : Int) := by omega
      rcases H0.out with e0 | ⟨b0, o0, e0, hc0⟩
      · omega
      rcases H1.out with e1 | ⟨b1, o1, e1, hc1⟩
      · omega
      have d0 : wr.cell? ⟨b0, o0 + k, none⟩ = some (.string (s0 k)) := (BEL.out.cell (p := ⟨b0, o0 + k, none⟩) (World.block_lt_of_cell? w ⟨b0, o0 + k, none⟩ (hc0 k hlt))).trans (hc0 k hlt)
      have d1 : wr.cell? ⟨b1, o1 + k, none⟩ = some (.string (s1 k)) := (BEL.out.cell (p := ⟨b1, o1 + k, none⟩) (World.block_lt_of_cell? w ⟨b1, o1 + k, none⟩ (hc1 k hlt))).trans (hc1 k hlt)
      subst e0 e1
      clear hc0 hc1
      have z0 := ROW.out.frozen (k * 2)
      have z1 := ROW.out.frozen (k * 2 + 1)
      have y0 := ROW.out.cell (i := k * 2) (by omega)
      have y1 := ROW.out.cell (i := k * 2 + 1) (by omega)
      go_wp2
      go_region
      go_wp2
      go_roundg (n - (k + 1))
      case measure => omega
      case rel => exact ⟨k + 1, _, by omega, by go_num, ((BEL.out.setCell (Nat.le_refl _) _).setCell (Nat.le_refl _) _).drew, ((ROW.out.set (k * 2) _).set (k * 2 + 1) _).drew⟩
    · go_wp2_with fail
      obtain ⟨i1, i2, i3, i4⟩ := HS'.out
      obtain ⟨g1, g2, g3, g4, g5⟩ := HG.out
      obtain ⟨b1, b2, b3, b4, b5, b6⟩ := HB.out
      have BA : Below w.heap.size w (wr.alloc (.cells #[.slice (some ⟨w.heap.size, 0, none⟩) n n, .slice a2 ns c2, .slice a3 nl c3] 49)) := bel_alloc' BEL.out _
      have hin : HIn (wr.alloc (.cells #[.slice (some ⟨w.heap.size, 0, none⟩) n n, .slice a2 ns c2, .slice a3 nl c3] 49)) wr.heap.size n ns nl m nw c2 c3 (some ⟨w.heap.size, 0, none⟩) a2 a3 a4 a5 n S L M W H :=
        { f0 := by simp, f1 := by simp, f2 := by simp, hS := i1.below BA (Nat.le_refl _), hL := i2.below BA (Nat.le_refl _), hM := i3.below BA (Nat.le_refl _), hW := i4.below BA (Nat.le_refl _), hn := b1, hns := b2, hnl := b3, hm := b4, hnw := b5, hc3 := b6, g := g1, mlt := g2, wok := g3, isH := g4, hb := g5 }
      refine (hf_any wr.heap.size n ns nl m nw c2 c3 c4 c5 n (some ⟨w.heap.size, 0, none⟩) a2 a3 a4 a5 S L M W H _ hin).mono ?_
      clear i1 i2 i3 i4 g1 g2 g3 g4 g5 hin
      rintro e w2 ⟨a', c', A, dep, hh, rfl, hb2, hA, hd, hs⟩
      have RES : Hid (Below w.heap.size w w2 ∧ Ints w2 a' m (fun i => (A i : Int)) ∧ (∀ i, i < m → H (M i) + dep i = hh) ∧ HS.lst m A = HS.sorted dep M m (hh + 1)) := ⟨BA.trans (hb2.mono BA.size), hA, hd, hs⟩
      clear hb2 hA hd hs BA
      go_wp2
      go_ret
      exact ⟨a', c', A, dep, hh, rfl, RES.out⟩
end Go.Proofs.Qxb6605208a
