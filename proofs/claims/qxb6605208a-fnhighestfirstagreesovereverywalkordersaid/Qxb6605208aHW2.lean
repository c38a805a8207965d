import Derived.Test.Qxb6605208aHW1
namespace Go.Proofs.Qxb6605208a
open Go.RowKit
open HP (WOK)

def loN (ns : Nat) (S : Nat → Int) (k : Nat) : Nat := (lo ns S k).toNat
def cntN (ns : Nat) (S : Nat → Int) (k : Nat) : Nat := (hi ns S k - lo ns S k).toNat
def parN (ns : Nat) (S L : Nat → Int) (k c : Nat) : Nat := (L (loN ns S k + c)).toNat

theorem GOne.nat {n ns nl : Nat} {S L : Nat → Int} {k : Nat} (h : GOne n ns nl S L k) : lo ns S k = (loN ns S k : Int) ∧ hi ns S k = ((loN ns S k + cntN ns S k : Nat) : Int) ∧ loN ns S k + cntN ns S k ≤ nl := by
  obtain ⟨h1, h2, h3, _⟩ := h
  unfold loN cntN
  omega

theorem GOne.par {n ns nl : Nat} {S L : Nat → Int} {k c : Nat} (h : GOne n ns nl S L k) (hc : c < cntN ns S k) : L (loN ns S k + c) = (parN ns S L k c : Int) ∧ parN ns S L k c < n := by
  have hn := h.nat
  obtain ⟨h1, h2, h3, h4⟩ := h
  have := h4 (loN ns S k + c) (by omega) (by omega)
  unfold parN
  omega

theorem GOK.lt {n ns nl : Nat} {S L : Nat → Int} (h : GOK n ns nl S L) : ∀ k, k < n → ∀ c, c < cntN ns S k → parN ns S L k c < n := fun k hk _ hc => ((h k hk).par hc).2

/-- What zzWalkedOK has seen after k rounds. -/
structure WI (n : Nat) (cnt : Nat → Nat) (P : Nat → Nat → Nat) (W : Nat → Int) (k : Nat) (sn : Nat → Bool) : Prop where
  rng : ∀ i, i < k → 0 ≤ W i ∧ W i < n
  seen : ∀ x, x < n → (sn x = true ↔ ∃ j, j < k ∧ (W j).toNat = x)
  par : ∀ i, i < k → ∀ c, c < cnt (W i).toNat → ∃ j, j < i ∧ (W j).toNat = P (W i).toNat c
  diff : ∀ i j, i < j → j < k → (W i).toNat ≠ (W j).toNat

theorem WI.start (n : Nat) (cnt : Nat → Nat) (P : Nat → Nat → Nat) (W : Nat → Int) : WI n cnt P W 0 (fun _ => false) :=
  ⟨fun i h => by omega, fun x _ => ⟨fun h => (by cases h), fun ⟨j, h, _⟩ => (by omega)⟩, fun i h => by omega, fun i j _ h => by omega⟩

theorem WI.step {n : Nat} {cnt : Nat → Nat} {P : Nat → Nat → Nat} {W : Nat → Int} {k v : Nat} {sn : Nat → Bool} (h : WI n cnt P W k sn) (e : W k = v) (hv : v < n) (hs : sn v = false)
    (hp : ∀ c, c < cnt v → sn (P v c) = true) (hP : ∀ c, c < cnt v → P v c < n) : WI n cnt P W (k + 1) (fun x => if x = v then true else sn x) := by
  have e' : (W k).toNat = v := by omega
  refine ⟨fun i hi => ?_, fun x hx => ?_, fun i hi c hc => ?_, fun i j hij hj => ?_⟩
  · by_cases c : i = k
    · subst c; omega
    · exact h.rng i (by omega)
  · by_cases c : x = v
    · subst c; simp only [if_true, true_iff]; exact ⟨k, by omega, e'⟩
    · simp only [c, if_false]
      rw [h.seen x hx]
      constructor
      · rintro ⟨j, h1, h2⟩; exact ⟨j, by omega, h2⟩
      · rintro ⟨j, h1, h2⟩
        refine ⟨j, ?_, h2⟩
        by_cases c2 : j = k
        · subst c2; omega
        · omega
  · by_cases c2 : i = k
    · subst c2
      rw [e'] at hc ⊢
      obtain ⟨j, h1, h2⟩ := (h.seen _ (hP c hc)).1 (hp c hc)
      exact ⟨j, h1, h2⟩
    · exact h.par i (by omega) c hc
  · by_cases c : j = k
    · subst c
      intro c2
      have := (h.seen v hv).2 ⟨i, hij, by omega⟩
      rw [hs] at this; cases this
    · exact h.diff i j hij (by omega)

theorem WI.done {n : Nat} {cnt : Nat → Nat} {P : Nat → Nat → Nat} {W : Nat → Int} {sn : Nat → Bool} (h : WI n cnt P W n sn) : WOK n cnt P (fun i => (W i).toNat) n :=
  ⟨fun i hi => ⟨by have := h.rng i hi; show (W i).toNat < n; omega, fun c hc => h.par i hi c hc⟩, fun k hk => HP.all_of_diff (fun i hi => by have := h.rng i hi; show (W i).toNat < n; omega) (fun i j hij hj => h.diff i j hij hj) k hk⟩

/-- A bool is returned, nothing old is written; where it is true, Q holds. -/
def RetBB (w : World) (Q : Prop) (e : Ending) (w' : World) : Prop := ∃ r : Bool, e = .returned (.bool r) ∧ Below w.heap.size w w' ∧ (r = true → Q)

theorem Try.info4 : (Try.prog.info? 4).map (fun i => (i.zero, i.size, i.bytes)) = some (some (.bool false), 1, 1) := by kernel_rfl

theorem rowIs_drewN {w : World} {b : Nat} {t : TypeId} {n : Nat} {f : Nat → Value} (h : w.rowIs b t n f) (q : Nat) : (w.drewN q).rowIs b t n f := h

theorem walkedOK_len (a0 a1 a2 : Option Addr) (n ns nl m c0 c1 c2 : Nat) (w : World) (h : m ≠ n) :
    Calls Try.prog 28 #[.int .i64 n, .slice a0 ns c0, .slice a1 nl c1, .slice a2 m c2] w fun e w' => e = .returned (.bool false) ∧ w' = w := by
  have hb : ((m : Int) != (n : Int)) = true := by rw [bne_iff_ne]; omega
  go_enter Try.func28, Try.ntmps28
  go_wp2
  go_ret
  exact ⟨rfl, rfl⟩

set_option maxRecDepth 100000 in
set_option maxHeartbeats 2000000 in
theorem walkedOK_any (a0 a1 a2 : Option Addr) (n ns nl c0 c1 c2 : Nat) (S L W : Nat → Int) (w : World) (hn : n ≤ 1048576) (hns : ns ≤ 1048576) (hnl : nl ≤ 1048576) (hS : Ints w a0 ns S) (hL : Ints w a1 nl L) (hW : Ints w a2 n W) (hG : GOK n ns nl S L) :
    Calls Try.prog 28 #[.int .i64 n, .slice a0 ns c0, .slice a1 nl c1, .slice a2 n c2] w fun e w' => RetBB w ((∀ i, i < n → 0 ≤ W i ∧ W i < n) ∧ WOK n (cntN ns S) (parN ns S L) (fun i => (W i).toNat) n) e w' := by
  have HS : Hid (Ints w a0 ns S) := hS
  have HL : Hid (Ints w a1 nl L) := hL
  have HW : Hid (Ints w a2 n W) := hW
  have HG : Hid (GOK n ns nl S L) := hG
  have hne : ((n : Int) != (n : Int)) = false := by simp
  have hmk := run_make_row' (P := Try.prog) 52 4 (.bool false) 1 Try.underlying52 Try.info4 rfl .i64 .i64 n (by omega) (by omega)
  clear hS hL hW hG
  go_enter Try.func28, Try.ntmps28
  go_wp2
  clear hmk
  go_loopg [10] n (fun g i wr => ∃ (k : Nat) (sn : Nat → Bool), k + g = n ∧ i = .int .i64 k ∧ Below w.heap.size w wr ∧ wr.rowIs w.heap.size 4 n (fun j => .bool (sn j)) ∧ WI n (cntN ns S) (parN ns S L) W k sn)
  case atStart => exact ⟨0, fun _ => false, by omega, rfl, (Below.refl _ _).alloc (Nat.le_refl _) _, World.rowIs_made w (.bool false) n 4, WI.start _ _ _ _⟩
  case round =>
    obtain ⟨k, sn, hk, rfl, hb, hr, hi⟩ := hrel
    have BEL : Hid (Below w.heap.size w wr) := hb
    have ROW : Hid (wr.rowIs w.heap.size 4 n (fun j => .bool (sn j))) := hr
    have INV : Hid (WI n (cntN ns S) (parN ns S L) W k sn) := hi
    clear hb hr hi
    by_cases hlt : k < n
    · have hlt' : (k : Int) < (n : Int) := by omega
      rcases HW.out with h0 | ⟨bw, ow, e, hc⟩
      · omega
      have ck : wr.cell? ⟨bw, ow + k, none⟩ = some (.int .i64 (W k)) := (BEL.out.cell (p := ⟨bw, ow + k, none⟩) (World.block_lt_of_cell? w ⟨bw, ow + k, none⟩ (hc k hlt))).trans (hc k hlt)
      subst e
      clear hc
      by_cases g1 : W k < 0
      · have g1' : decide (W k < 0) = true := decide_eq_true g1
        go_wp2
        go_ret
        exact ⟨false, rfl, BEL.out, fun h => by cases h⟩
      · have g1' : decide (W k < 0) = false := decide_eq_false g1
        by_cases g2 : (n : Int) ≤ W k
        · have g2' : decide ((n : Int) ≤ W k) = true := decide_eq_true g2
          go_wp2
          go_ret
          exact ⟨false, rfl, BEL.out, fun h => by cases h⟩
        · obtain ⟨v, hv⟩ := Int.eq_ofNat_of_zero_le (show 0 ≤ W k by omega)
          have hvn : v < n := by omega
          rw [hv] at ck
          have HV : Hid (W k = v) := hv
          clear hv g1 g2 g1'
          have d1 : decide ((v : Int) < 0) = false := decide_eq_false (by omega)
          have d2 : decide (n ≤ v) = false := decide_eq_false (by omega)
          have hvn' : (v : Int) < (n : Int) := by omega
          have cv : wr.cell? ⟨w.heap.size, v, none⟩ = some (.bool (sn v)) := ROW.out.cell hvn
          cases hsn : sn v with
          | true =>
            rw [hsn] at cv
            clear hsn
            go_wp2
            go_ret
            exact ⟨false, rfl, BEL.out, fun h => by cases h⟩
          | false =>
            rw [hsn] at cv
            have HSN : Hid (sn v = false) := hsn
            clear hsn
            go_wp2_with fail
            have hp := par_any a0 ns c0 v S wr hns (by omega) (HS.out.below BEL.out (Nat.le_refl _))
            have hgn := (HG.out v hvn).nat
            rw [hgn.1, hgn.2.1] at hp
            refine hp.mono ?_
            clear hp
            rintro e w1 ⟨rfl, q, rfl⟩
            have hnl' := hgn.2.2
            have GP : Hid (∀ c, c < cntN ns S v → L (loN ns S v + c) = (parN ns S L v c : Int) ∧ parN ns S L v c < n) := fun c hc => (HG.out v hvn).par hc
            clear hgn
            generalize hln : loN ns S v = l at GP hnl' ⊢
            generalize hcn : cntN ns S v = cn at GP hnl' ⊢
            have HC : Hid (loN ns S v = l ∧ cntN ns S v = cn) := ⟨hln, hcn⟩
            clear hln hcn
            go_wp2
            go_loopg [14] cn (fun g i wx => ∃ c : Nat, c + g = cn ∧ i = .int .i64 ((l + c : Nat) : Int) ∧ wx = wr.drewN q ∧ ∀ x, x < c → sn (parN ns S L v x) = true)
            case atStart => exact ⟨0, by omega, rfl, rfl, fun x h => by omega⟩
            case round =>
              obtain ⟨c, hc, rfl, rfl, hx⟩ := hrel
              have HX : Hid (∀ x, x < c → sn (parN ns S L v x) = true) := hx
              clear hx
              by_cases hcl : c < cn
              · obtain ⟨hp1, hp2⟩ := GP.out c hcl
                rcases HL.out with h0 | ⟨bl, ol, e, hcc⟩
                · omega
                have cl : wr.cell? ⟨bl, ol + (l + c), none⟩ = some (.int .i64 (L (l + c))) := (BEL.out.cell (p := ⟨bl, ol + (l + c), none⟩) (World.block_lt_of_cell? w ⟨bl, ol + (l + c), none⟩ (hcc (l + c) (by omega)))).trans (hcc (l + c) (by omega))
                subst e
                rw [hp1] at cl
                clear hcc hp1
                have cp := ROW.out.cell hp2
                generalize hpp : parN ns S L v c = p at cl cp hp2
                have HPP : Hid (parN ns S L v c = p) := hpp
                clear hpp
                have t1 : ((l + c : Nat) : Int) < ((l + cn : Nat) : Int) := by omega
                have t2 : ((l + c : Nat) : Int) < (nl : Int) := by omega
                have t3 : (p : Int) < (n : Int) := by omega
                cases hsp : sn p with
                | false =>
                  rw [hsp] at cp
                  clear hsp
                  go_wp2
                  go_ret
                  exact ⟨false, rfl, BEL.out.trans (below_drewN _ _ _), fun h => by cases h⟩
                | true =>
                  rw [hsp] at cp
                  have HX' : Hid (∀ x, x < c + 1 → sn (parN ns S L v x) = true) := by
                    intro x hx
                    by_cases e : x = c
                    · subst e; rw [HPP.out]; exact hsp
                    · exact HX.out x (by omega)
                  clear hsp
                  go_wp2
                  go_roundg (cn - (c + 1))
                  case measure => omega
                  case rel => exact ⟨c + 1, by omega, by go_num, rfl, HX'.out⟩
              · obtain rfl : c = cn := by omega
                have fz : wr.frozen? ⟨w.heap.size, v, none⟩ = false := ROW.out.frozen v
                have INV' : Hid (WI n (cntN ns S) (parN ns S L) W (k + 1) (fun x => if x = v then true else sn x)) :=
                  INV.out.step HV.out hvn HSN.out (fun x hx => HX.out x (by rw [HC.out.2] at hx; exact hx)) (fun x hx => HG.out.lt v hvn x hx)
                go_wp2
                go_roundg (n - (k + 1))
                case measure => omega
                case rel =>
                  refine ⟨k + 1, _, by omega, by go_num, (BEL.out.trans (below_drewN _ _ _)).setCell (Nat.le_refl _) _, ?_, INV'.out⟩
                  exact ((rowIs_drewN ROW.out q).set v (.bool true)).congr fun j _ => by split <;> simp [*]
    · obtain rfl : k = n := by omega
      go_wp2
      go_ret
      exact ⟨true, rfl, BEL.out, fun _ => ⟨INV.out.rng, INV.out.done⟩⟩
end Go.Proofs.Qxb6605208a
