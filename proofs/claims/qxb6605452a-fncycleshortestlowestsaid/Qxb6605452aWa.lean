import Derived.Test.Qxb6605452aW9
namespace Go.Proofs.Qxb6605452a
open Go.RowKit

/-- v is seen for the first time. -/
def TS.vis1 (S : TS) (v : Nat) : TS :=
  { S with
    idx := fun x => if x = v then S.vis + 1 else S.idx x
    low := fun x => if x = v then S.vis + 1 else S.low x
    onS := fun x => if x = v then true else S.onS x
    s := fun i => if i = S.k then v else S.s i
    k := S.k + 1
    vis := S.vis + 1 }

theorem TS.vis1_push (S : TS) (v : Nat) : (S.vis1 v).pushF v = S.visit v := rfl

theorem far_cell {w : World} {p a : Addr} (v : Value) (h : p.block ≠ a.block) : (w.setCell p v).cell? a = w.cell? a := World.cell?_setCell_other _ _ _ _ (fun e => h (by rw [e]))

theorem M27.box7 {w w' : World} {B n : Nat} {S : TS} {sa : Option Addr} {sc : Nat} {za : Option Addr} {zc : Nat} {wa : Option Addr} {wc : Nat} (H : M27 w B n S sa sc za zc wa wc) (hg : w.grownBy w' (blk sa)) : w'.rowIs (B + 7) 22 1 (fun _ => .slice sa S.k sc) :=
  H.bs.of_block (hg.block _ H.bs.lt (by
    intro e
    cases h : sa with
    | none => rw [h] at e; simp [blk] at e
    | some x => rw [h] at e; simp [blk] at e; have := H.sn x h; omega))

theorem M27.bel_sa {w0 w w' : World} {B n : Nat} {S : TS} {sa : Option Addr} {sc : Nat} {za : Option Addr} {zc : Nat} {wa : Option Addr} {wc : Nat} (H : M27 w B n S sa sc za zc wa wc) (hg : w.grownBy w' (blk sa)) (hb : Below B w0 w) : Below B w0 w' :=
  ⟨hg.os.trans hb.os, hg.tape.trans hb.tape, hg.output.trans hb.output, Nat.le_trans hb.size hg.size, fun k hk => (hg.block k (by have := H.ix.lt; omega) (by
    intro e
    cases h : sa with
    | none => rw [h] at e; simp [blk] at e
    | some x => rw [h] at e; simp [blk] at e; have := H.sn x h; omega)).trans (hb.block k hk)⟩

set_option maxHeartbeats 4000000 in
theorem visit_any (w : World) (B n : Nat) (S : TS) (sa : Option Addr) (sc : Nat) (za : Option Addr) (zc : Nat) (wa : Option Addr) (wc v : Nat) (H : M27 w B n S sa sc za zc wa wc) (hv : v < n) (hk : S.k ≤ 4096) (hvis : S.vis ≤ 4096) :
    Calls Try.prog 31 #[.int .i64 v, .pointer (some ⟨B + 8, 0, none⟩), .pointer (some ⟨B + 1, 0, none⟩), .pointer (some ⟨B + 3, 0, none⟩), .pointer (some ⟨B + 7, 0, none⟩), .pointer (some ⟨B + 5, 0, none⟩)] w fun e w' =>
      e = .returned (.tuple #[]) ∧ ∃ sa' sc', M27 w' B n (S.vis1 v) sa' sc' za zc wa wc ∧ Below B w w' := by
  have hv' : (v : Int) < (n : Int) := by omega
  have c0 := H.vs.cell (i := 0) (by omega)
  have f0 := H.vs.frozen 0
  have HH : Hid (M27 w B n S sa sc za zc wa wc) := H
  clear H
  go_enter Try.func31, Try.ntmps31
  go_wp2
  have H1 : M27 (w.setCell ⟨B + 8, 0, none⟩ (.int .i64 ((S.vis : Int) + 1))) B n { S with vis := S.vis + 1 } sa sc za zc wa wc := HH.out.setVis (S.vis + 1)
  have B1 : Below B w (w.setCell ⟨B + 8, 0, none⟩ (.int .i64 ((S.vis : Int) + 1))) := (Below.refl _ _).setCell (by simp) _
  generalize w.setCell ⟨B + 8, 0, none⟩ (.int .i64 ((S.vis : Int) + 1)) = w1 at *
  have HH1 : Hid (M27 w1 B n { S with vis := S.vis + 1 } sa sc za zc wa wc) := H1
  have HB1 : Hid (Below B w w1) := B1
  have c1 := H1.bi.cell (i := 0) (by omega)
  have c2 := H1.bl.cell (i := 0) (by omega)
  have c3 : w1.cell? ⟨B + 8, 0, none⟩ = some (.int .i64 ((S.vis : Int) + 1)) := H1.vs.cell (i := 0) (by omega)
  have c4 := H1.ix.cell (i := v) hv
  have c5 := H1.lw.cell (i := v) hv
  have f4 := H1.ix.frozen v
  have f5 := H1.lw.frozen v
  clear H1 B1 c0 f0
  go_region
  have H2 : M27 ((w1.setCell ⟨B, v, none⟩ (.int .i64 ((S.vis : Int) + 1))).setCell ⟨B + 2, v, none⟩ (.int .i64 ((S.vis : Int) + 1))).drew B n { S with vis := S.vis + 1, idx := (S.vis1 v).idx, low := (S.vis1 v).low } sa sc za zc wa wc := ((HH1.out.setIdx v (S.vis + 1)).setLow v (S.vis + 1)).drewN 1
  have B2 : Below B w ((w1.setCell ⟨B, v, none⟩ (.int .i64 ((S.vis : Int) + 1))).setCell ⟨B + 2, v, none⟩ (.int .i64 ((S.vis : Int) + 1))).drew := ((HB1.out.setCell (Nat.le_refl _) _).setCell (by simp) _).drew
  clear c1 c2 c3 c4 c5 f4 f5 HH1 HB1
  generalize ((w1.setCell ⟨B, v, none⟩ (.int .i64 ((S.vis : Int) + 1))).setCell ⟨B + 2, v, none⟩ (.int .i64 ((S.vis : Int) + 1))).drew = w2 at *
  have HH2 : Hid (M27 w2 B n { S with vis := S.vis + 1, idx := (S.vis1 v).idx, low := (S.vis1 v).low } sa sc za zc wa wc) := H2
  have HB2 : Hid (Below B w w2) := B2
  have c1 : w2.cell? ⟨B + 7, 0, none⟩ = some (.slice sa S.k sc) := H2.bs.cell (i := 0) (by omega)
  clear H2 B2
  go_wp2_with (at_builtin; refine wpList_append_int _ rfl (.tmp 17) (.tmp 19) rfl sa S.k sc (fun j => (S.s j : Int)) v rfl ⟨w2.heap.size, 0, none⟩ 1 rfl ?_ ?_ ?_ ?_)
  case refine_1 => exact Sl.alloc HH2.out.st _
  case refine_2 => simp [Addr.add_lit]
  case refine_3 => omega
  intro a' cap' w3 hS hg hn2
  have H3 := HH2.out.alloc (.cells #[.int .i64 (v : Int)] 3)
  have R7 := H3.box7 hg
  have f7 := R7.frozen 0
  have c7 : w3.cell? ⟨B + 7, 0, none⟩ = some (.slice sa S.k sc) := R7.cell (i := 0) (by omega)
  have H4 := H3.pushStack0 hS hg (by simpa using hn2)
  have B4 : Hid (Below B w (w3.setCell ⟨B + 7, 0, none⟩ (.slice a' (S.k + 1) cap'))) := (H3.bel_sa hg (HB2.out.alloc (by have := HH2.out.ix.lt; omega) _)).setCell (by simp) _
  have c5 : w3.cell? ⟨B + 5, 0, none⟩ = some (.slice (some ⟨B + 4, 0, none⟩) n n) := by have := H4.bo.cell (i := 0) (by omega); rwa [far_cell _ (by simp)] at this
  have c4 : w3.cell? ⟨B + 4, v, none⟩ = some (.bool (S.onS v)) := by have := H4.on.cell (i := v) hv; rwa [far_cell _ (by simp)] at this
  have f4 : w3.frozen? ⟨B + 4, v, none⟩ = false := by have := H4.on.frozen v; simpa using this
  have H5 : Hid (M27 ((w3.setCell ⟨B + 7, 0, none⟩ (.slice a' (S.k + 1) cap')).setCell ⟨B + 4, v, none⟩ (.bool true)) B n (S.vis1 v) a' cap' za zc wa wc) := H4.setOn v true
  clear R7 H3 H4 hS hg hn2 HH2 HH c1
  go_wp2
  go_end0
  exact ⟨rfl, a', cap', H5.out, B4.out.setCell (by simp) _⟩
end Go.Proofs.Qxb6605452a
