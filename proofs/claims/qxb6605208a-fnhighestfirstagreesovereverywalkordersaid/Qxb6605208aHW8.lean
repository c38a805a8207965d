import Derived.Test.Qxb6605208aHW5
namespace Go.Proofs.Qxb6605208a
open Go.RowKit
open HP (WOK IsH mx)

/-- Inside a round of relaxing: h0 as the round began; the entities below k are through; of k's parents the first c. -/
structure RI (n : Nat) (cnt : Nat → Nat) (P : Nat → Nat → Nat) (H h0 : Nat → Nat) (k c : Nat) (ht : Nat → Nat) (ch : Bool) : Prop where
  le : ∀ x, x < n → ht x ≤ H x
  ge : ∀ x, x < n → h0 x ≤ ht x
  all : ∀ x, x < n → x < k → ∀ y, y < cnt x → h0 (P x y) + 1 ≤ ht x
  some : ∀ y, y < c → h0 (P k y) + 1 ≤ ht k
  same : ch = false → ∀ x, x < n → ht x = h0 x

theorem RI.up {n : Nat} {cnt : Nat → Nat} {P : Nat → Nat → Nat} {H h0 ht : Nat → Nat} {k c : Nat} {ch : Bool} (h : RI n cnt P H h0 k c ht ch) (hH : IsH n cnt P H) (hk : k < n) (hc : c < cnt k) (hp : P k c < n) (hlt : ht k < ht (P k c) + 1) :
    RI n cnt P H h0 k (c + 1) (fun x => if x = k then ht (P k c) + 1 else ht x) true := by
  have h1 := hH.up hk hc
  have h2 := h.le _ hp
  have h3 := h.ge _ hp
  refine ⟨fun x hx => ?_, fun x hx => ?_, fun x hx hxk y hy => ?_, fun y hy => ?_, fun e => by cases e⟩
  · by_cases e : x = k
    · subst e; simp only [if_true]; omega
    · simp only [e, if_false]; exact h.le x hx
  · by_cases e : x = k
    · subst e; simp only [if_true]; have := h.ge x hx; omega
    · simp only [e, if_false]; exact h.ge x hx
  · have e : ¬ x = k := by omega
    simp only [e, if_false]; exact h.all x hx hxk y hy
  · simp only [if_true]
    by_cases e : y = c
    · subst e; omega
    · have := h.some y (by omega); omega

theorem RI.stay {n : Nat} {cnt : Nat → Nat} {P : Nat → Nat → Nat} {H h0 ht : Nat → Nat} {k c : Nat} {ch : Bool} (h : RI n cnt P H h0 k c ht ch) (hp : P k c < n) (hle : ht (P k c) + 1 ≤ ht k) : RI n cnt P H h0 k (c + 1) ht ch := by
  have h3 := h.ge _ hp
  refine ⟨h.le, h.ge, h.all, fun y hy => ?_, h.same⟩
  by_cases e : y = c
  · subst e; omega
  · exact h.some y (by omega)

theorem RI.next {n : Nat} {cnt : Nat → Nat} {P : Nat → Nat → Nat} {H h0 ht : Nat → Nat} {k : Nat} {ch : Bool} (h : RI n cnt P H h0 k (cnt k) ht ch) : RI n cnt P H h0 (k + 1) 0 ht ch := by
  refine ⟨h.le, h.ge, fun x hx hxk y hy => ?_, fun y hy => by omega, h.same⟩
  by_cases e : x = k
  · subst e; exact h.some y hy
  · exact h.all x hx (by omega) y hy

theorem RI.start {n : Nat} {cnt : Nat → Nat} {P : Nat → Nat → Nat} {H h0 : Nat → Nat} (h : ∀ x, x < n → h0 x ≤ H x) : RI n cnt P H h0 0 0 h0 false :=
  ⟨h, fun _ _ => Nat.le_refl _, fun x _ hx => by omega, fun y hy => by omega, fun _ _ _ => rfl⟩

set_option maxRecDepth 100000 in
set_option maxHeartbeats 4000000 in
theorem heights_any (n ns nl c1 c2 : Nat) (a1 a2 : Option Addr) (S L : Nat → Int) (H : Nat → Nat) (w : World) (hS : Ints w a1 ns S) (hL : Ints w a2 nl L) (hn : n ≤ 4096) (hns : ns ≤ 8192) (hnl : nl ≤ 8192)
    (hG : GOK n ns nl S L) (isH : IsH n (cntN ns S) (parN ns S L) H) (hb : ∀ k, H k ≤ n) :
    Calls Try.prog 20 #[.int .i64 n, .slice a1 ns c1, .slice a2 nl c2] w fun e w' => e = .returned (.slice (some ⟨w.heap.size, 0, none⟩) n n) ∧ Below w.heap.size w w' ∧ w'.rowIs w.heap.size 3 n (fun j => .int .i64 (H j : Int)) := by
  have HS : Hid (Ints w a1 ns S) := hS
  have HL : Hid (Ints w a2 nl L) := hL
  have HG : Hid (GOK n ns nl S L) := hG
  have HH : Hid (IsH n (cntN ns S) (parN ns S L) H) := isH
  have HBD : Hid (∀ k, H k ≤ n) := hb
  clear hS hL hG isH hb
  have hmk := run_make_row' (P := Try.prog) 22 3 (.int .i64 0) 8 Try.underlying22 Try.info3 rfl .i64 .i64 n (by omega) (by omega)
  go_enter Try.func20, Try.ntmps20
  go_wp2
  clear hmk
  go_loopg [8] (n + 1) (fun g i wr => ∃ (r : Nat) (ht : Nat → Nat), r + g = n + 1 ∧ i = .int .i64 r ∧ Below w.heap.size w wr ∧ wr.rowIs w.heap.size 3 n (fun j => .int .i64 (ht j : Int)) ∧ (∀ x, x < n → ht x ≤ H x) ∧ ∀ x, x < n → min (H x) r ≤ ht x)
  case atStart => exact ⟨0, fun _ => 0, by omega, rfl, (Below.refl _ _).alloc (Nat.le_refl _) _, World.rowIs_made w (.int .i64 0) n 3, fun _ _ => Nat.zero_le _, fun _ _ => by omega⟩
  case round =>
    obtain ⟨r, h0, hr, rfl, hb0, hrow0, hle0, hmin0⟩ := hrel
    have BEL0 : Hid (Below w.heap.size w wr) := hb0
    have ROW0 : Hid (wr.rowIs w.heap.size 3 n (fun j => .int .i64 (h0 j : Int))) := hrow0
    have LE0 : Hid (∀ x, x < n → h0 x ≤ H x) := hle0
    have MIN0 : Hid (∀ x, x < n → min (H x) r ≤ h0 x) := hmin0
    clear hb0 hrow0 hle0 hmin0
    obtain ⟨wo, hwo⟩ : ∃ wo, wo = wr := ⟨_, rfl⟩
    subst hwo
    by_cases hlt : r ≤ n
    · have hlt' : (r : Int) ≤ (n : Int) := by omega
      go_wp2
      go_loopg [9, 10] n (fun g b i wr => ∃ (k : Nat) (ht : Nat → Nat) (ch : Bool), k + g = n ∧ i = .int .i64 k ∧ b = .bool ch ∧ Below w.heap.size w wr ∧ wr.rowIs w.heap.size 3 n (fun j => .int .i64 (ht j : Int)) ∧ RI n (cntN ns S) (parN ns S L) H h0 k 0 ht ch)
      case atStart => exact ⟨0, h0, false, by omega, rfl, rfl, BEL0.out, ROW0.out, RI.start LE0.out⟩
      case round =>
        obtain ⟨k, h1, ch, hk, rfl, rfl, hb1, hrow1, hri⟩ := hrel
        have BEL1 : Hid (Below w.heap.size w wr) := hb1
        have ROW1 : Hid (wr.rowIs w.heap.size 3 n (fun j => .int .i64 (h1 j : Int))) := hrow1
        have RI1 : Hid (RI n (cntN ns S) (parN ns S L) H h0 k 0 h1 ch) := hri
        clear hb1 hrow1 hri
        obtain ⟨wm, hwm⟩ : ∃ wm, wm = wr := ⟨_, rfl⟩
        subst hwm
        by_cases hkn : k < n
        · have hkn' : (k : Int) < (n : Int) := by omega
          go_wp2_with fail
          have hp := par_any a1 ns c1 k S wm (by omega) (by omega) (HS.out.below BEL1.out (Nat.le_refl _))
          have hgn := (HG.out k hkn).nat
          rw [hgn.1, hgn.2.1] at hp
          refine hp.mono ?_
          clear hp
          rintro e w1 ⟨rfl, q, rfl⟩
          have hnl' := hgn.2.2
          have GP : Hid (∀ c, c < cntN ns S k → L (loN ns S k + c) = (parN ns S L k c : Int) ∧ parN ns S L k c < n) := fun c hc => (HG.out k hkn).par hc
          clear hgn
          generalize hln : loN ns S k = l at GP hnl' ⊢
          generalize hcn : cntN ns S k = cn at GP hnl' ⊢
          have HC : Hid (cntN ns S k = cn) := hcn
          clear hln hcn
          go_wp2
          go_loopg [9, 13] cn (fun g b i wx => ∃ (c : Nat) (ht : Nat → Nat) (ch : Bool), c + g = cn ∧ i = .int .i64 ((l + c : Nat) : Int) ∧ b = .bool ch ∧ Below w.heap.size w wx ∧ wx.rowIs w.heap.size 3 n (fun j => .int .i64 (ht j : Int)) ∧ RI n (cntN ns S) (parN ns S L) H h0 k c ht ch)
          case atStart => exact ⟨0, h1, ch, by omega, rfl, rfl, BEL1.out.trans (below_drewN _ _ _), rowIs_drewN ROW1.out q, RI1.out⟩
          case round =>
            obtain ⟨c, h2, ch2, hc, rfl, rfl, hb2, hrow2, hri2⟩ := hrel
            have BEL2 : Hid (Below w.heap.size w wr) := hb2
            have ROW2 : Hid (wr.rowIs w.heap.size 3 n (fun j => .int .i64 (h2 j : Int))) := hrow2
            have RI2 : Hid (RI n (cntN ns S) (parN ns S L) H h0 k c h2 ch2) := hri2
            clear hb2 hrow2 hri2
            by_cases hcl : c < cn
            · obtain ⟨hp1, hp2⟩ := GP.out c (by omega)
              have hcn2 : c < cntN ns S k := by rw [HC.out]; exact hcl
              rcases HL.out with e0 | ⟨bl, ol, e, hcc⟩
              · omega
              have cl : wr.cell? ⟨bl, ol + (l + c), none⟩ = some (.int .i64 (L (l + c))) := (BEL2.out.cell (p := ⟨bl, ol + (l + c), none⟩) (World.block_lt_of_cell? w ⟨bl, ol + (l + c), none⟩ (hcc (l + c) (by omega)))).trans (hcc (l + c) (by omega))
              subst e
              rw [hp1] at cl
              clear hcc hp1
              have cp := ROW2.out.cell hp2
              have ck := ROW2.out.cell hkn
              have fk := ROW2.out.frozen k
              have bk : h2 k ≤ 4096 := by have a := RI2.out.le k hkn; have b := HBD.out k; omega
              have bp : h2 (parN ns S L k c) ≤ 4096 := by have a := RI2.out.le _ hp2; have b := HBD.out (parN ns S L k c); omega
              have UP : Hid (h2 k < h2 (parN ns S L k c) + 1 → RI n (cntN ns S) (parN ns S L) H h0 k (c + 1) (fun x => if x = k then h2 (parN ns S L k c) + 1 else h2 x) true) := fun hh => RI2.out.up HH.out hkn hcn2 hp2 hh
              have STAY : Hid (h2 (parN ns S L k c) + 1 ≤ h2 k → RI n (cntN ns S) (parN ns S L) H h0 k (c + 1) h2 ch2) := fun hh => RI2.out.stay hp2 hh
              generalize hpp : parN ns S L k c = p at cl cp hp2 bp UP STAY
              clear hpp
              have t1 : ((l + c : Nat) : Int) < ((l + cn : Nat) : Int) := by omega
              have t2 : ((l + c : Nat) : Int) < (nl : Int) := by omega
              have t3 : (p : Int) < (n : Int) := by omega
              by_cases hup : (h2 k : Int) < (h2 p : Int) + 1
              · go_wp2
                go_quiet (fail)
                go_wp2
                go_roundg (cn - (c + 1))
                case measure => omega
                case rel =>
                  refine ⟨c + 1, _, true, by omega, by go_num, rfl, (BEL2.out.trans (below_drewN _ _ _)).setCell (Nat.le_refl _) _, ?_, UP.out (by omega)⟩
                  exact ((rowIs_drewN ROW2.out _).set k _).congr fun j _ => by split <;> simp
              · have hup' : (h2 p : Int) + 1 ≤ (h2 k : Int) := by omega
                go_wp2
                go_quiet (fail)
                go_wp2
                go_roundg (cn - (c + 1))
                case measure => omega
                case rel => exact ⟨c + 1, h2, ch2, by omega, by go_num, rfl, BEL2.out.trans (below_drewN _ _ _), rowIs_drewN ROW2.out _, STAY.out (by omega)⟩
            · obtain rfl : c = cn := by omega
              have NEXT : Hid (RI n (cntN ns S) (parN ns S L) H h0 (k + 1) 0 h2 ch2) := by
                have h := RI2.out
                rw [← HC.out] at h
                exact h.next
              go_wp2
              go_roundg (n - (k + 1))
              case measure => omega
              case rel => exact ⟨k + 1, h2, ch2, by omega, by go_num, rfl, BEL2.out, ROW2.out, NEXT.out⟩
        · obtain rfl : k = n := by omega
          cases ch with
          | false =>
            have FIN : Hid (wm.rowIs w.heap.size 3 k (fun j => .int .i64 (H j : Int))) := ROW1.out.congr fun j hj => by
              have hs := RI1.out.same rfl
              have h1' := HP.relaxed (ht := h1) HH.out HG.out.lt (fun x hx y hy => by rw [hs (parN ns S L x y) (HG.out.lt x hx y hy)]; exact RI1.out.all x hx hx y hy) (H j) j hj rfl
              have h2' := RI1.out.le j hj
              have : h1 j = H j := by omega
              rw [this]
            go_wp2
            go_ret
            exact ⟨rfl, BEL1.out, FIN.out⟩
          | true =>
            have MIN1 : Hid (∀ x, x < k → min (H x) (r + 1) ≤ h1 x) := HP.round_more HH.out HG.out.lt MIN0.out (fun x hx y hy => RI1.out.all x hx hx y hy)
            go_wp2
            go_roundg (k + 1 - (r + 1))
            case measure => omega
            case rel => exact ⟨r + 1, h1, by omega, by go_num, BEL1.out, ROW1.out, RI1.out.le, MIN1.out⟩
    · obtain rfl : r = n + 1 := by omega
      have FIN : Hid (wo.rowIs w.heap.size 3 n (fun j => .int .i64 (H j : Int))) := ROW0.out.congr fun j hj => by
        have a := MIN0.out j hj
        have b := LE0.out j hj
        have c := HBD.out j
        have : h0 j = H j := by omega
        rw [this]
      go_wp2
      go_ret
      exact ⟨rfl, BEL0.out, FIN.out⟩
end Go.Proofs.Qxb6605208a
