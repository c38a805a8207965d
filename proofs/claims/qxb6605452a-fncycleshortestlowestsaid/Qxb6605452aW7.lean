import Derived.Test.Qxb6605452aW6
namespace Go.Proofs.Qxb6605452a
open Go.RowKit

/-- The edges of G turned round so far: all of nodes below k, the first j of node k. -/
structure Tr (G T : Gr) (n k j : Nat) : Prop where
  snd : ∀ v u, T.E v u → u < n ∧ G.E u v
  cpl : ∀ u v, u < k → G.E u v → T.E v u
  par : ∀ j', j' < j → T.E (G.of k j') k
  len : ∀ v, T.ol v ≤ sumTo k G.ol + j

theorem Tr.init (G : Gr) (n : Nat) : Tr G ⟨fun _ => 0, fun _ _ => 0⟩ n 0 0 :=
  ⟨fun v u h => by obtain ⟨j, hj, _⟩ := h; exact absurd hj (Nat.not_lt_zero _), fun u v h => absurd h (Nat.not_lt_zero _), fun j' h => absurd h (Nat.not_lt_zero _), fun v => Nat.zero_le _⟩

theorem Tr.push {G T : Gr} {n k j : Nat} (h : Tr G T n k j) (hk : k < n) (hj : j < G.ol k) : Tr G (T.push (G.of k j) k) n k (j + 1) := by
  refine ⟨fun v u he => ?_, fun u v hu he => Gr.push_E.2 (.inl (h.cpl u v hu he)), fun j' hj' => ?_, fun v => ?_⟩
  · rcases Gr.push_E.1 he with he | ⟨rfl, rfl⟩
    · exact h.snd v u he
    · exact ⟨hk, j, hj, rfl⟩
  · by_cases e : j' = j
    · exact Gr.push_E.2 (.inr ⟨by rw [e], rfl⟩)
    · exact Gr.push_E.2 (.inl (h.par j' (by omega)))
  · have := h.len v
    simp only [Gr.push]
    split <;> omega

theorem Tr.next {G T : Gr} {n k : Nat} (h : Tr G T n k (G.ol k)) : Tr G T n (k + 1) 0 := by
  refine ⟨h.snd, fun u v hu he => ?_, fun j' hj' => by omega, fun v => by have := h.len v; simp only [sumTo]; omega⟩
  by_cases e : u = k
  · subst e; obtain ⟨j, hj, rfl⟩ := he; exact h.par j hj
  · exact h.cpl u v (by omega) he

set_option maxHeartbeats 4000000 in
theorem transpose_any (a : Option Addr) (n c : Nat) (G : Gr) (w : World) (hn : n ≤ 4096) (hsum : sumTo n G.ol ≤ 131072) (hG : G.In n) (hR : Rows w a n G.ol (fun v j => (G.of v j : Int))) :
    Calls Try.prog 17 #[.slice a n c, .int .i64 n] w fun e w' => ∃ T, e = .returned (.slice (some ⟨w.heap.size, 0, none⟩) n n) ∧ Below w.heap.size w w' ∧ Rows w' (some ⟨w.heap.size, 0, none⟩) n T.ol (fun v j => (T.of v j : Int)) ∧ Tr G T n n 0 := by
  have hmk := run_make_row' (P := Try.prog) 23 22 (.slice none 0 0) 24 Try.underlying23 Try.info22 rfl .i64 .i64 n (by omega) (by omega)
  have HR : Hid (Rows w a n G.ol (fun v j => (G.of v j : Int))) := hR
  have HG : Hid (G.In n) := hG
  clear hR hG
  go_enter Try.func17, Try.ntmps17
  go_wp2
  clear hmk
  go_loopg [6] n (fun g' i wr => ∃ (k : Nat) (T : Gr), k + g' = n ∧ i = .int .i64 k ∧ Tr G T n k 0 ∧ Below w.heap.size w wr ∧ TP wr w.heap.size n T)
  case atStart =>
    exact ⟨0, _, by omega, rfl, Tr.init G n, bel_alloc (Below.refl _ _) _, _, fun _ => none, fun _ => 0, World.rowIs_made w (.slice none 0 0) n 22, fun v _ => ⟨rfl, .inl ⟨rfl, rfl, rfl⟩, (fun x h => nomatch h), (fun _ _ _ x y h => nomatch h)⟩⟩
  case round =>
    obtain ⟨k, T, hk, rfl, htr, hb, htp⟩ := hrel
    have HTR : Hid (Tr G T n k 0) := htr
    have HB : Hid (Below w.heap.size w wr) := hb
    have HTP : Hid (TP wr w.heap.size n T) := htp
    by_cases hlt : k < n
    · have hlt' : (k : Int) < (n : Int) := by omega
      rcases HR.out with h | ⟨b, off, sa, sc, e, hc⟩
      · omega
      subst e
      obtain ⟨k1, k2, _⟩ := hc k hlt
      have lb : b < w.heap.size := World.block_lt_of_cell? w ⟨b, off + k, none⟩ k1
      have y1 := (hb.cell (p := ⟨b, off + k, none⟩) lb).trans k1
      have HK2 : Hid (Ints w (sa k) (G.ol k) (fun j => (G.of k j : Int))) := k2
      have hok : sumTo k G.ol + G.ol k ≤ 131072 := by
        have := sumTo_mono (f := G.ol) (k := k + 1) (n := n) (by omega)
        simp only [sumTo] at this; omega
      clear htr hb htp hc k1 k2
      go_wp2
      clear y1
      go_loopg [21] (G.ol k) (fun g'' jj wr => ∃ (j : Nat) (T : Gr), j + g'' = G.ol k ∧ jj = .int .i64 j ∧ Tr G T n k j ∧ Below w.heap.size w wr ∧ TP wr w.heap.size n T)
      case atStart => exact ⟨0, T, by omega, rfl, HTR.out, HB.out, HTP.out⟩
      case round =>
        clear HTR HB HTP
        obtain ⟨j, T, hj, rfl, htr, hb, htp⟩ := hrel
        have HTR : Hid (Tr G T n k j) := htr
        have HB : Hid (Below w.heap.size w wr) := hb
        have HTP : Hid (TP wr w.heap.size n T) := htp
        by_cases hjl : j < G.ol k
        · have hjl' : (j : Int) < (G.ol k : Int) := by omega
          rcases HK2.out with h | ⟨b2, o2, e2, hc2⟩
          · omega
          have lb2 : b2 < w.heap.size := World.block_lt_of_cell? w ⟨b2, o2 + j, none⟩ (hc2 j hjl)
          have y2 : wr.cell? ⟨b2, o2 + j, none⟩ = some (.int .i64 (G.of k j : Int)) := (hb.cell (p := ⟨b2, o2 + j, none⟩) lb2).trans (hc2 j hjl)
          have hvn := HG.out k (G.of k j) hlt ⟨j, hjl, rfl⟩
          have PUSH : Hid (Tr G (T.push (G.of k j) k) n k (j + 1)) := htr.push hlt hjl
          have hlen := htr.len (G.of k j)
          generalize hvd : G.of k j = v at *
          have hvn' : (v : Int) < (n : Int) := by omega
          obtain ⟨Fv, ta, tc, hFr, hFa⟩ := htp
          have HFR : Hid (wr.rowIs w.heap.size 22 n Fv) := hFr
          have HFA : Hid (∀ v, v < n → Fv v = .slice (ta v) (T.ol v) (tc v) ∧ SlI wr (ta v) (T.ol v) (tc v) (fun j => (T.of v j : Int)) ∧ (∀ x, ta v = some x → w.heap.size < x.block) ∧ ∀ v', v' < n → v' ≠ v → ∀ x y, ta v = some x → ta v' = some y → x.block ≠ y.block) := hFa
          have x1 : wr.cell? ⟨w.heap.size, v, none⟩ = some (.slice (ta v) (T.ol v) (tc v)) := by rw [hFr.cell hvn, (hFa v hvn).1]
          have lt0 : w.heap.size < wr.heap.size := hFr.lt
          have SLI : Hid (SlI wr (ta v) (T.ol v) (tc v) (fun j => (T.of v j : Int))) := (hFa v hvn).2.1
          clear htr hb hFr hFa hc2 hvd
          go_wp2_with (at_builtin; refine wpList_append_int _ rfl (.tmp 30) (.tmp 32) rfl (ta v) (T.ol v) (tc v) (fun j => (T.of v j : Int)) k rfl ⟨wr.heap.size, 0, none⟩ 1 rfl ?_ ?_ ?_ ?_)
          case refine_1 => exact Sl.alloc SLI.out _
          case refine_2 => simp [Addr.add_lit]
          case refine_3 => omega
          intro a' cap' w2 hS hg hn2
          have hne : some w.heap.size ≠ blk (ta v) := fun e => by
            cases hta : ta v with
            | none => rw [hta] at e; simp [blk] at e
            | some x => rw [hta] at e; simp [blk] at e; have := (HFA.out v hvn).2.2.1 x hta; omega
          have FR2 : w2.rowIs w.heap.size 22 n Fv := HFR.out.of_block ((hg.block _ (by simp; omega) hne).trans ((bel_alloc (Below.refl _ _) _).block _ lt0))
          have x3 := FR2.cell hvn
          have f3 := FR2.frozen v
          have BEL2 : Hid (Below w.heap.size w w2) := bel_grown (bel_alloc HB.out _) hg (fun q hq => by
            cases hta : ta v with
            | none => rw [hta] at hq; simp [blk] at hq
            | some x => rw [hta] at hq; simp [blk] at hq; have := (HFA.out v hvn).2.2.1 x hta; omega)
          have TP2 : Hid (TP (w2.setCell ⟨w.heap.size, v, none⟩ (.slice a' (T.ol v + 1) cap')) w.heap.size n (T.push v k)) := tp_step (bel_alloc (Below.refl _ _) _) hvn HFR.out HFA.out hS hg (by simpa using hn2)
          clear FR2 hS hg hn2 x1
          go_wp2
          rw [← e2]
          go_roundg (G.ol k - (j + 1))
          case measure => omega
          case rel => exact ⟨j + 1, T.push v k, by omega, by go_num, PUSH.out, BEL2.out.setCell (Nat.le_refl _) _, TP2.out⟩
        · have hjl' : decide ((j : Int) < (G.ol k : Int)) = false := decide_eq_false (by omega)
          have NEXT : Hid (Tr G T n (k + 1) 0) := by
            have e : j = G.ol k := by omega
            rw [e] at htr
            exact htr.next
          clear hb htp htr
          go_wp2
          go_roundg (n - (k + 1))
          case measure => omega
          case rel => exact ⟨k + 1, T, by omega, by go_num, NEXT.out, HB.out, HTP.out⟩
    · have hlt' : decide ((k : Int) < (n : Int)) = false := decide_eq_false (by omega)
      have e : k = n := by omega
      clear hb htp htr
      go_wp2
      go_ret
      exact ⟨T, rfl, HB.out, HTP.out.rows, e ▸ HTR.out⟩
end Go.Proofs.Qxb6605452a
