import Derived.Test.Qxb6605452aW8
namespace Go.Proofs.Qxb6605452a
open Go.RowKit

/-- The frames' cells. -/
def fr (S : TS) (i : Nat) : Value := .int .i64 ((if i % 2 = 0 then S.g (i / 2) else S.nx (i / 2) : Nat) : Int)

/-- The memory of components(): nine blocks from B on, and three slices of its own. -/
structure M27 (w : World) (B n : Nat) (S : TS) (sa : Option Addr) (sc : Nat) (za : Option Addr) (zc : Nat) (wa : Option Addr) (wc : Nat) : Prop where
  ix : w.rowIs B 3 n (fun v => .int .i64 (S.idx v : Int))
  bi : w.rowIs (B + 1) 22 1 (fun _ => .slice (some ⟨B, 0, none⟩) n n)
  lw : w.rowIs (B + 2) 3 n (fun v => .int .i64 (S.low v : Int))
  bl : w.rowIs (B + 3) 22 1 (fun _ => .slice (some ⟨B + 2, 0, none⟩) n n)
  on : w.rowIs (B + 4) 4 n (fun v => .bool (S.onS v))
  bo : w.rowIs (B + 5) 32 1 (fun _ => .slice (some ⟨B + 4, 0, none⟩) n n)
  cm : w.rowIs (B + 6) 3 n (fun v => .int .i64 (S.comp v : Int))
  bs : w.rowIs (B + 7) 22 1 (fun _ => .slice sa S.k sc)
  vs : w.rowIs (B + 8) 3 1 (fun _ => .int .i64 (S.vis : Int))
  st : SlI w sa S.k sc (fun i => (S.s i : Int))
  sz : SlI w za S.nc zc (fun i => (S.size i : Int))
  wk : Sl w 53 2 wa S.h wc (fr S)
  sn : ∀ x, sa = some x → B + 9 ≤ x.block
  zn : ∀ x, za = some x → B + 9 ≤ x.block
  wn : ∀ x, wa = some x → B + 9 ≤ x.block
  dsz : ∀ x y, sa = some x → za = some y → x.block ≠ y.block
  dsw : ∀ x y, sa = some x → wa = some y → x.block ≠ y.block
  dzw : ∀ x y, za = some x → wa = some y → x.block ≠ y.block

/-- A new component is begun. -/
def TS.openC (S : TS) : TS :=
  { S with
    nc := S.nc + 1
    size := fun y => if y = S.nc then 0 else S.size y }

/-- A frame is laid. -/
def TS.pushF (S : TS) (v : Nat) : TS :=
  { S with
    g := fun i => if i = S.h then v else S.g i
    nx := fun i => if i = S.h then 0 else S.nx i
    h := S.h + 1 }

/-- A node is laid on the stack. -/
def TS.pushS (S : TS) (v : Nat) : TS :=
  { S with
    s := fun i => if i = S.k then v else S.s i
    k := S.k + 1 }

theorem Sl.cut {w : World} {e : TypeId} {sz : Nat} {a : Option Addr} {len cap : Nat} {F : Nat → Value} (h : Sl w e sz a len cap F) {m : Nat} (hm : m ≤ len) : Sl w e sz a m cap F := by
  rcases h with ⟨h1, h2, h3⟩ | ⟨B, off, k, H, rfl, hl, hc, hr, hF⟩
  · exact .inl ⟨h1, by omega, h3⟩
  · exact .inr ⟨B, off, k, H, rfl, by omega, hc, hr, fun i hi => hF i (Nat.lt_of_lt_of_le hi (Nat.mul_le_mul_right _ hm))⟩

theorem Sl.congr {w : World} {e : TypeId} {sz : Nat} {a : Option Addr} {len cap : Nat} {F F' : Nat → Value} (h : Sl w e sz a len cap F) (he : ∀ i, i < len * sz → F i = F' i) : Sl w e sz a len cap F' := by
  rcases h with h | ⟨B, off, k, H, rfl, hl, hc, hr, hF⟩
  · exact .inl h
  · exact .inr ⟨B, off, k, H, rfl, hl, hc, hr, fun i hi => by rw [hF i hi, he i hi]⟩

/-- A cell of it is written. -/
theorem Sl.set {w : World} {e : TypeId} {sz : Nat} {x : Addr} {len cap : Nat} {F : Nat → Value} (h : Sl w e sz (some x) len cap F) (i : Nat) (v : Value) : Sl (w.setCell ⟨x.block, x.off + i, none⟩ v) e sz (some x) len cap (fun j => if j = i then v else F j) := by
  rcases h with ⟨h, _⟩ | ⟨B, off, k, H, he, hl, hc, hr, hF⟩
  · cases h
  · cases he
    refine .inr ⟨B, off, k, _, rfl, hl, hc, hr.set (off + i) v, fun j hj => ?_⟩
    by_cases e : j = i
    · simp [e]
    · show (if off + j = off + i then v else H (off + j)) = if j = i then v else F j
      rw [if_neg e, if_neg (by omega)]; exact hF j hj

theorem Sl.cell {w : World} {e : TypeId} {sz : Nat} {x : Addr} {len cap : Nat} {F : Nat → Value} (h : Sl w e sz (some x) len cap F) {i : Nat} (hi : i < len * sz) : w.cell? ⟨x.block, x.off + i, none⟩ = some (F i) := by
  rcases h with ⟨h, _⟩ | ⟨B, off, k, H, he, hl, hc, hr, hF⟩
  · cases h
  · cases he
    have : len * sz ≤ cap * sz := Nat.mul_le_mul_right _ hl
    show w.cell? ⟨B, off + i, none⟩ = _
    rw [hr.cell (by omega), hF i hi]

theorem Sl.frozen {w : World} {e : TypeId} {sz : Nat} {x : Addr} {len cap : Nat} {F : Nat → Value} (h : Sl w e sz (some x) len cap F) (i : Nat) : w.frozen? ⟨x.block, x.off + i, none⟩ = false := by
  rcases h with ⟨h, _⟩ | ⟨B, off, k, H, he, hl, hc, hr, hF⟩
  · cases h
  · cases he; exact hr.frozen _

theorem Sl.tag {w : World} {e : TypeId} {sz : Nat} {a : Option Addr} {len cap : Nat} {F : Nat → Value} (h : Sl w e sz a len cap F) (h0 : 0 < len) : ∃ B off, a = some ⟨B, off, none⟩ ∧ len ≤ cap := by
  rcases h with ⟨_, h, _⟩ | ⟨B, off, k, H, he, hl, hc, hr, hF⟩
  · omega
  · exact ⟨B, off, he, hl⟩

theorem M27.setIdx {w : World} {B n : Nat} {S : TS} {sa : Option Addr} {sc : Nat} {za : Option Addr} {zc : Nat} {wa : Option Addr} {wc : Nat} (H : M27 w B n S sa sc za zc wa wc) (v m : Nat) : M27 (w.setCell ⟨B, v, none⟩ (.int .i64 (m : Int))) B n { S with idx := fun x => if x = v then m else S.idx x } sa sc za zc wa wc := by
  have hk : ∀ k, k < w.heap.size → k ≠ (⟨B, v, none⟩ : Addr).block → (w.setCell ⟨B, v, none⟩ (.int .i64 (m : Int))).heap[k]? = w.heap[k]? := fun k _ h => Deep.blk_setCell_other _ _ _ _ h
  exact { ix := (H.ix.set v _).congr fun j _ => by by_cases e : j = v <;> simp [e]
          bi := H.bi.of_block (hk _ H.bi.lt (by simp))
          lw := H.lw.of_block (hk _ H.lw.lt (by simp))
          bl := H.bl.of_block (hk _ H.bl.lt (by simp))
          on := H.on.of_block (hk _ H.on.lt (by simp))
          bo := H.bo.of_block (hk _ H.bo.lt (by simp))
          cm := H.cm.of_block (hk _ H.cm.lt (by simp))
          bs := H.bs.of_block (hk _ H.bs.lt (by simp))
          vs := H.vs.of_block (hk _ H.vs.lt (by simp))
          st := Sl.of_block H.st (fun y hy => hk _ (Sl.lt H.st y hy) (by have := H.sn y hy; simp; omega))
          sz := Sl.of_block H.sz (fun y hy => hk _ (Sl.lt H.sz y hy) (by have := H.zn y hy; simp; omega))
          wk := Sl.of_block H.wk (fun y hy => hk _ (Sl.lt H.wk y hy) (by have := H.wn y hy; simp; omega))
          sn := H.sn
          zn := H.zn
          wn := H.wn
          dsz := H.dsz
          dsw := H.dsw
          dzw := H.dzw }

theorem M27.setLow {w : World} {B n : Nat} {S : TS} {sa : Option Addr} {sc : Nat} {za : Option Addr} {zc : Nat} {wa : Option Addr} {wc : Nat} (H : M27 w B n S sa sc za zc wa wc) (v m : Nat) : M27 (w.setCell ⟨(B + 2), v, none⟩ (.int .i64 (m : Int))) B n { S with low := fun x => if x = v then m else S.low x } sa sc za zc wa wc := by
  have hk : ∀ k, k < w.heap.size → k ≠ (⟨(B + 2), v, none⟩ : Addr).block → (w.setCell ⟨(B + 2), v, none⟩ (.int .i64 (m : Int))).heap[k]? = w.heap[k]? := fun k _ h => Deep.blk_setCell_other _ _ _ _ h
  exact { ix := H.ix.of_block (hk _ H.ix.lt (by simp))
          bi := H.bi.of_block (hk _ H.bi.lt (by simp))
          lw := (H.lw.set v _).congr fun j _ => by by_cases e : j = v <;> simp [e]
          bl := H.bl.of_block (hk _ H.bl.lt (by simp))
          on := H.on.of_block (hk _ H.on.lt (by simp))
          bo := H.bo.of_block (hk _ H.bo.lt (by simp))
          cm := H.cm.of_block (hk _ H.cm.lt (by simp))
          bs := H.bs.of_block (hk _ H.bs.lt (by simp))
          vs := H.vs.of_block (hk _ H.vs.lt (by simp))
          st := Sl.of_block H.st (fun y hy => hk _ (Sl.lt H.st y hy) (by have := H.sn y hy; simp; omega))
          sz := Sl.of_block H.sz (fun y hy => hk _ (Sl.lt H.sz y hy) (by have := H.zn y hy; simp; omega))
          wk := Sl.of_block H.wk (fun y hy => hk _ (Sl.lt H.wk y hy) (by have := H.wn y hy; simp; omega))
          sn := H.sn
          zn := H.zn
          wn := H.wn
          dsz := H.dsz
          dsw := H.dsw
          dzw := H.dzw }

theorem M27.setOn {w : World} {B n : Nat} {S : TS} {sa : Option Addr} {sc : Nat} {za : Option Addr} {zc : Nat} {wa : Option Addr} {wc : Nat} (H : M27 w B n S sa sc za zc wa wc) (v : Nat) (b : Bool) : M27 (w.setCell ⟨(B + 4), v, none⟩ (.bool b)) B n { S with onS := fun x => if x = v then b else S.onS x } sa sc za zc wa wc := by
  have hk : ∀ k, k < w.heap.size → k ≠ (⟨(B + 4), v, none⟩ : Addr).block → (w.setCell ⟨(B + 4), v, none⟩ (.bool b)).heap[k]? = w.heap[k]? := fun k _ h => Deep.blk_setCell_other _ _ _ _ h
  exact { ix := H.ix.of_block (hk _ H.ix.lt (by simp))
          bi := H.bi.of_block (hk _ H.bi.lt (by simp))
          lw := H.lw.of_block (hk _ H.lw.lt (by simp))
          bl := H.bl.of_block (hk _ H.bl.lt (by simp))
          on := (H.on.set v _).congr fun j _ => by by_cases e : j = v <;> simp [e]
          bo := H.bo.of_block (hk _ H.bo.lt (by simp))
          cm := H.cm.of_block (hk _ H.cm.lt (by simp))
          bs := H.bs.of_block (hk _ H.bs.lt (by simp))
          vs := H.vs.of_block (hk _ H.vs.lt (by simp))
          st := Sl.of_block H.st (fun y hy => hk _ (Sl.lt H.st y hy) (by have := H.sn y hy; simp; omega))
          sz := Sl.of_block H.sz (fun y hy => hk _ (Sl.lt H.sz y hy) (by have := H.zn y hy; simp; omega))
          wk := Sl.of_block H.wk (fun y hy => hk _ (Sl.lt H.wk y hy) (by have := H.wn y hy; simp; omega))
          sn := H.sn
          zn := H.zn
          wn := H.wn
          dsz := H.dsz
          dsw := H.dsw
          dzw := H.dzw }

theorem M27.setComp {w : World} {B n : Nat} {S : TS} {sa : Option Addr} {sc : Nat} {za : Option Addr} {zc : Nat} {wa : Option Addr} {wc : Nat} (H : M27 w B n S sa sc za zc wa wc) (v m : Nat) : M27 (w.setCell ⟨(B + 6), v, none⟩ (.int .i64 (m : Int))) B n { S with comp := fun x => if x = v then m else S.comp x } sa sc za zc wa wc := by
  have hk : ∀ k, k < w.heap.size → k ≠ (⟨(B + 6), v, none⟩ : Addr).block → (w.setCell ⟨(B + 6), v, none⟩ (.int .i64 (m : Int))).heap[k]? = w.heap[k]? := fun k _ h => Deep.blk_setCell_other _ _ _ _ h
  exact { ix := H.ix.of_block (hk _ H.ix.lt (by simp))
          bi := H.bi.of_block (hk _ H.bi.lt (by simp))
          lw := H.lw.of_block (hk _ H.lw.lt (by simp))
          bl := H.bl.of_block (hk _ H.bl.lt (by simp))
          on := H.on.of_block (hk _ H.on.lt (by simp))
          bo := H.bo.of_block (hk _ H.bo.lt (by simp))
          cm := (H.cm.set v _).congr fun j _ => by by_cases e : j = v <;> simp [e]
          bs := H.bs.of_block (hk _ H.bs.lt (by simp))
          vs := H.vs.of_block (hk _ H.vs.lt (by simp))
          st := Sl.of_block H.st (fun y hy => hk _ (Sl.lt H.st y hy) (by have := H.sn y hy; simp; omega))
          sz := Sl.of_block H.sz (fun y hy => hk _ (Sl.lt H.sz y hy) (by have := H.zn y hy; simp; omega))
          wk := Sl.of_block H.wk (fun y hy => hk _ (Sl.lt H.wk y hy) (by have := H.wn y hy; simp; omega))
          sn := H.sn
          zn := H.zn
          wn := H.wn
          dsz := H.dsz
          dsw := H.dsw
          dzw := H.dzw }

theorem M27.setVis {w : World} {B n : Nat} {S : TS} {sa : Option Addr} {sc : Nat} {za : Option Addr} {zc : Nat} {wa : Option Addr} {wc : Nat} (H : M27 w B n S sa sc za zc wa wc) (m : Nat) : M27 (w.setCell ⟨(B + 8), 0, none⟩ (.int .i64 (m : Int))) B n { S with vis := m } sa sc za zc wa wc := by
  have hk : ∀ k, k < w.heap.size → k ≠ (⟨(B + 8), 0, none⟩ : Addr).block → (w.setCell ⟨(B + 8), 0, none⟩ (.int .i64 (m : Int))).heap[k]? = w.heap[k]? := fun k _ h => Deep.blk_setCell_other _ _ _ _ h
  exact { ix := H.ix.of_block (hk _ H.ix.lt (by simp))
          bi := H.bi.of_block (hk _ H.bi.lt (by simp))
          lw := H.lw.of_block (hk _ H.lw.lt (by simp))
          bl := H.bl.of_block (hk _ H.bl.lt (by simp))
          on := H.on.of_block (hk _ H.on.lt (by simp))
          bo := H.bo.of_block (hk _ H.bo.lt (by simp))
          cm := H.cm.of_block (hk _ H.cm.lt (by simp))
          bs := H.bs.of_block (hk _ H.bs.lt (by simp))
          vs := (H.vs.set 0 _).congr fun j hj => by simp [show j = 0 by omega]
          st := Sl.of_block H.st (fun y hy => hk _ (Sl.lt H.st y hy) (by have := H.sn y hy; simp; omega))
          sz := Sl.of_block H.sz (fun y hy => hk _ (Sl.lt H.sz y hy) (by have := H.zn y hy; simp; omega))
          wk := Sl.of_block H.wk (fun y hy => hk _ (Sl.lt H.wk y hy) (by have := H.wn y hy; simp; omega))
          sn := H.sn
          zn := H.zn
          wn := H.wn
          dsz := H.dsz
          dsw := H.dsw
          dzw := H.dzw }

theorem M27.cutStack {w : World} {B n : Nat} {S : TS} {sa : Option Addr} {sc : Nat} {za : Option Addr} {zc : Nat} {wa : Option Addr} {wc : Nat} (H : M27 w B n S sa sc za zc wa wc) {m : Nat} (hm : m ≤ S.k) : M27 (w.setCell ⟨B + 7, 0, none⟩ (.slice sa m sc)) B n { S with k := m } sa sc za zc wa wc := by
  have hk : ∀ k, k < w.heap.size → k ≠ (⟨B + 7, 0, none⟩ : Addr).block → (w.setCell ⟨B + 7, 0, none⟩ (.slice sa m sc)).heap[k]? = w.heap[k]? := fun k _ h => Deep.blk_setCell_other _ _ _ _ h
  exact { ix := H.ix.of_block (hk _ H.ix.lt (by simp))
          bi := H.bi.of_block (hk _ H.bi.lt (by simp))
          lw := H.lw.of_block (hk _ H.lw.lt (by simp))
          bl := H.bl.of_block (hk _ H.bl.lt (by simp))
          on := H.on.of_block (hk _ H.on.lt (by simp))
          bo := H.bo.of_block (hk _ H.bo.lt (by simp))
          cm := H.cm.of_block (hk _ H.cm.lt (by simp))
          bs := (H.bs.set 0 _).congr fun j hj => by simp [show j = 0 by omega]
          vs := H.vs.of_block (hk _ H.vs.lt (by simp))
          st := Sl.of_block (Sl.cut H.st hm) (fun y hy => hk _ (Sl.lt H.st y hy) (by have := H.sn y hy; simp; omega))
          sz := Sl.of_block H.sz (fun y hy => hk _ (Sl.lt H.sz y hy) (by have := H.zn y hy; simp; omega))
          wk := Sl.of_block H.wk (fun y hy => hk _ (Sl.lt H.wk y hy) (by have := H.wn y hy; simp; omega))
          sn := H.sn
          zn := H.zn
          wn := H.wn
          dsz := H.dsz
          dsw := H.dsw
          dzw := H.dzw }

theorem M27.back {w : World} {B n : Nat} {S : TS} {sa : Option Addr} {sc : Nat} {za : Option Addr} {zc : Nat} {wa : Option Addr} {wc : Nat} (H : M27 w B n S sa sc za zc wa wc) : M27 w B n S.back sa sc za zc wa wc :=
  { ix := H.ix, bi := H.bi, lw := H.lw, bl := H.bl, on := H.on, bo := H.bo, cm := H.cm, bs := H.bs, vs := H.vs, st := H.st, sz := H.sz, wk := Sl.cut H.wk (Nat.sub_le _ _), sn := H.sn, zn := H.zn, wn := H.wn, dsz := H.dsz, dsw := H.dsw, dzw := H.dzw }

theorem M27.drewN {w : World} {B n : Nat} {S : TS} {sa : Option Addr} {sc : Nat} {za : Option Addr} {zc : Nat} {wa : Option Addr} {wc : Nat} (H : M27 w B n S sa sc za zc wa wc) (q : Nat) : M27 (w.drewN q) B n S sa sc za zc wa wc :=
  { ix := H.ix, bi := H.bi, lw := H.lw, bl := H.bl, on := H.on, bo := H.bo, cm := H.cm, bs := H.bs, vs := H.vs, st := H.st, sz := H.sz, wk := H.wk, sn := H.sn, zn := H.zn, wn := H.wn, dsz := H.dsz, dsw := H.dsw, dzw := H.dzw }

theorem M27.alloc {w : World} {B n : Nat} {S : TS} {sa : Option Addr} {sc : Nat} {za : Option Addr} {zc : Nat} {wa : Option Addr} {wc : Nat} (H : M27 w B n S sa sc za zc wa wc) (o : Obj) : M27 (w.alloc o) B n S sa sc za zc wa wc := by
  have hk : ∀ k, k < w.heap.size → True → (w.alloc o).heap[k]? = w.heap[k]? := fun k h _ => (bel_alloc (Below.refl _ _) o).block k h
  exact { ix := H.ix.of_block (hk _ H.ix.lt trivial)
          bi := H.bi.of_block (hk _ H.bi.lt trivial)
          lw := H.lw.of_block (hk _ H.lw.lt trivial)
          bl := H.bl.of_block (hk _ H.bl.lt trivial)
          on := H.on.of_block (hk _ H.on.lt trivial)
          bo := H.bo.of_block (hk _ H.bo.lt trivial)
          cm := H.cm.of_block (hk _ H.cm.lt trivial)
          bs := H.bs.of_block (hk _ H.bs.lt trivial)
          vs := H.vs.of_block (hk _ H.vs.lt trivial)
          st := Sl.of_block H.st (fun y hy => hk _ (Sl.lt H.st y hy) trivial)
          sz := Sl.of_block H.sz (fun y hy => hk _ (Sl.lt H.sz y hy) trivial)
          wk := Sl.of_block H.wk (fun y hy => hk _ (Sl.lt H.wk y hy) trivial)
          sn := H.sn
          zn := H.zn
          wn := H.wn
          dsz := H.dsz
          dsw := H.dsw
          dzw := H.dzw }

theorem M27.setSize {w : World} {B n : Nat} {S : TS} {sa : Option Addr} {sc : Nat} {za : Option Addr} {zc : Nat} {wa : Option Addr} {wc : Nat} (H : M27 w B n S sa sc za zc wa wc) {x : Addr} (hz : za = some x) (c m : Nat) : M27 (w.setCell ⟨x.block, x.off + c, none⟩ (.int .i64 (m : Int))) B n { S with size := fun y => if y = c then m else S.size y } sa sc za zc wa wc := by
  subst hz
  have hk : ∀ k, k < w.heap.size → k ≠ (⟨x.block, x.off + c, none⟩ : Addr).block → (w.setCell ⟨x.block, x.off + c, none⟩ (.int .i64 (m : Int))).heap[k]? = w.heap[k]? := fun k _ h => Deep.blk_setCell_other _ _ _ _ h
  have hX : B + 9 ≤ x.block := H.zn x rfl
  exact { ix := H.ix.of_block (hk _ H.ix.lt (by have := hX; simp; omega))
          bi := H.bi.of_block (hk _ H.bi.lt (by have := hX; simp; omega))
          lw := H.lw.of_block (hk _ H.lw.lt (by have := hX; simp; omega))
          bl := H.bl.of_block (hk _ H.bl.lt (by have := hX; simp; omega))
          on := H.on.of_block (hk _ H.on.lt (by have := hX; simp; omega))
          bo := H.bo.of_block (hk _ H.bo.lt (by have := hX; simp; omega))
          cm := H.cm.of_block (hk _ H.cm.lt (by have := hX; simp; omega))
          bs := H.bs.of_block (hk _ H.bs.lt (by have := hX; simp; omega))
          vs := H.vs.of_block (hk _ H.vs.lt (by have := hX; simp; omega))
          st := Sl.of_block H.st (fun y hy => hk _ (Sl.lt H.st y hy) (H.dsz y x hy rfl))
          sz := SlI.congr (f := fun j => if j = c then (m : Int) else (S.size j : Int)) (Sl.congr (Sl.set H.sz c _) fun i _ => by by_cases e : i = c <;> simp [e]) fun i _ => by by_cases e : i = c <;> simp [e]
          wk := Sl.of_block H.wk (fun y hy => hk _ (Sl.lt H.wk y hy) (fun e => H.dzw x y rfl hy e.symm))
          sn := H.sn
          zn := H.zn
          wn := H.wn
          dsz := H.dsz
          dsw := H.dsw
          dzw := H.dzw }

theorem M27.setNext {w : World} {B n : Nat} {S : TS} {sa : Option Addr} {sc : Nat} {za : Option Addr} {zc : Nat} {wa : Option Addr} {wc : Nat} (H : M27 w B n S sa sc za zc wa wc) {x : Addr} (hw : wa = some x) (i : Nat) : M27 (w.setCell ⟨x.block, x.off + (i * 2 + 1), none⟩ (.int .i64 ((S.nx i + 1 : Nat) : Int))) B n (S.advAt i) sa sc za zc wa wc := by
  subst hw
  have hk : ∀ k, k < w.heap.size → k ≠ (⟨x.block, x.off + (i * 2 + 1), none⟩ : Addr).block → (w.setCell ⟨x.block, x.off + (i * 2 + 1), none⟩ (.int .i64 ((S.nx i + 1 : Nat) : Int))).heap[k]? = w.heap[k]? := fun k _ h => Deep.blk_setCell_other _ _ _ _ h
  have hX : B + 9 ≤ x.block := H.wn x rfl
  exact { ix := H.ix.of_block (hk _ H.ix.lt (by have := hX; simp; omega))
          bi := H.bi.of_block (hk _ H.bi.lt (by have := hX; simp; omega))
          lw := H.lw.of_block (hk _ H.lw.lt (by have := hX; simp; omega))
          bl := H.bl.of_block (hk _ H.bl.lt (by have := hX; simp; omega))
          on := H.on.of_block (hk _ H.on.lt (by have := hX; simp; omega))
          bo := H.bo.of_block (hk _ H.bo.lt (by have := hX; simp; omega))
          cm := H.cm.of_block (hk _ H.cm.lt (by have := hX; simp; omega))
          bs := H.bs.of_block (hk _ H.bs.lt (by have := hX; simp; omega))
          vs := H.vs.of_block (hk _ H.vs.lt (by have := hX; simp; omega))
          st := Sl.of_block H.st (fun y hy => hk _ (Sl.lt H.st y hy) (H.dsw y x hy rfl))
          sz := Sl.of_block H.sz (fun y hy => hk _ (Sl.lt H.sz y hy) (H.dzw y x hy rfl))
          wk := Sl.congr (Sl.set H.wk (i * 2 + 1) _) fun j _ => by
            simp only [fr, TS.advAt]
            by_cases e : j = i * 2 + 1
            · subst e; simp [show (i * 2 + 1) / 2 = i by omega]
            · rw [if_neg e]
              by_cases e0 : j % 2 = 0
              · simp [e0]
              · simp [e0, show ¬ j / 2 = i by omega]
          sn := H.sn
          zn := H.zn
          wn := H.wn
          dsz := H.dsz
          dsw := H.dsw
          dzw := H.dzw }

theorem M27.pushSize {w : World} {B n : Nat} {S : TS} {sa : Option Addr} {sc : Nat} {za : Option Addr} {zc : Nat} {wa : Option Addr} {wc : Nat} (H : M27 w B n S sa sc za zc wa wc) {w' : World} {a' : Option Addr} {cap' : Nat} {f : Nat → Int} (hS : SlI w' a' (S.nc + 1) cap' f) (hf : ∀ i, i < S.nc + 1 → f i = if i = S.nc then 0 else (S.size i : Int)) (hg : w.grownBy w' (blk za)) (hn : (a' = za ∧ za ≠ none) ∨ ∃ B', a' = some ⟨B', 0, none⟩ ∧ w.heap.size ≤ B') : M27 w' B n S.openC sa sc a' cap' wa wc := by
  have hk : ∀ k, k < w.heap.size → some k ≠ blk za → w'.heap[k]? = w.heap[k]? := hg.block
  exact { ix := H.ix.of_block (hk _ H.ix.lt (by
              intro e
              cases h : za with
              | none => rw [h] at e; simp [blk] at e
              | some x => rw [h] at e; simp [blk] at e; have := H.zn x h; omega))
          bi := H.bi.of_block (hk _ H.bi.lt (by
              intro e
              cases h : za with
              | none => rw [h] at e; simp [blk] at e
              | some x => rw [h] at e; simp [blk] at e; have := H.zn x h; omega))
          lw := H.lw.of_block (hk _ H.lw.lt (by
              intro e
              cases h : za with
              | none => rw [h] at e; simp [blk] at e
              | some x => rw [h] at e; simp [blk] at e; have := H.zn x h; omega))
          bl := H.bl.of_block (hk _ H.bl.lt (by
              intro e
              cases h : za with
              | none => rw [h] at e; simp [blk] at e
              | some x => rw [h] at e; simp [blk] at e; have := H.zn x h; omega))
          on := H.on.of_block (hk _ H.on.lt (by
              intro e
              cases h : za with
              | none => rw [h] at e; simp [blk] at e
              | some x => rw [h] at e; simp [blk] at e; have := H.zn x h; omega))
          bo := H.bo.of_block (hk _ H.bo.lt (by
              intro e
              cases h : za with
              | none => rw [h] at e; simp [blk] at e
              | some x => rw [h] at e; simp [blk] at e; have := H.zn x h; omega))
          cm := H.cm.of_block (hk _ H.cm.lt (by
              intro e
              cases h : za with
              | none => rw [h] at e; simp [blk] at e
              | some x => rw [h] at e; simp [blk] at e; have := H.zn x h; omega))
          bs := H.bs.of_block (hk _ H.bs.lt (by
              intro e
              cases h : za with
              | none => rw [h] at e; simp [blk] at e
              | some x => rw [h] at e; simp [blk] at e; have := H.zn x h; omega))
          vs := H.vs.of_block (hk _ H.vs.lt (by
              intro e
              cases h : za with
              | none => rw [h] at e; simp [blk] at e
              | some x => rw [h] at e; simp [blk] at e; have := H.zn x h; omega))
          st := Sl.of_block H.st (fun y hy => hk _ (Sl.lt H.st y hy) (by
              intro e
              cases h : za with
              | none => rw [h] at e; simp [blk] at e
              | some x => rw [h] at e; simp [blk] at e; exact H.dsz y x hy h e))
          sz := SlI.congr hS fun i hi => by rw [hf i hi]; by_cases e : i = S.nc <;> simp [e, TS.openC]
          wk := Sl.of_block H.wk (fun y hy => hk _ (Sl.lt H.wk y hy) (by
              intro e
              cases h : za with
              | none => rw [h] at e; simp [blk] at e
              | some x => rw [h] at e; simp [blk] at e; exact H.dzw x y h hy e.symm))
          sn := H.sn
          zn := (fun x hx => by
            rcases hn with ⟨h, _⟩ | ⟨B', h, hB⟩
            · exact H.zn x (h ▸ hx)
            · rw [h] at hx; cases hx; have := H.vs.lt; simp; omega)
          wn := H.wn
          dsz := (fun x y hx hy => by
            rcases hn with ⟨h, _⟩ | ⟨B', h, hB⟩
            · exact H.dsz x y hx (h ▸ hy)
            · rw [h] at hy; cases hy; have := Sl.lt H.st x hx; simp; omega)
          dsw := H.dsw
          dzw := (fun x y hx hy => by
            rcases hn with ⟨h, _⟩ | ⟨B', h, hB⟩
            · exact H.dzw x y (h ▸ hx) hy
            · rw [h] at hx; cases hx; have := Sl.lt H.wk y hy; simp; omega) }

theorem M27.pushWalk {w : World} {B n : Nat} {S : TS} {sa : Option Addr} {sc : Nat} {za : Option Addr} {zc : Nat} {wa : Option Addr} {wc : Nat} (H : M27 w B n S sa sc za zc wa wc) {w' : World} {a' : Option Addr} {cap' : Nat} {v : Nat} (hS : Sl w' 53 2 a' (S.h + 1) cap' (fun j => if j = S.h * 2 then .int .i64 (v : Int) else if j = S.h * 2 + 1 then .int .i64 0 else fr S j)) (hg : w.grownBy w' (blk wa)) (hn : (a' = wa ∧ wa ≠ none) ∨ ∃ B', a' = some ⟨B', 0, none⟩ ∧ w.heap.size ≤ B') : M27 w' B n (S.pushF v) sa sc za zc a' cap' := by
  have hk : ∀ k, k < w.heap.size → some k ≠ blk wa → w'.heap[k]? = w.heap[k]? := hg.block
  exact { ix := H.ix.of_block (hk _ H.ix.lt (by
              intro e
              cases h : wa with
              | none => rw [h] at e; simp [blk] at e
              | some x => rw [h] at e; simp [blk] at e; have := H.wn x h; omega))
          bi := H.bi.of_block (hk _ H.bi.lt (by
              intro e
              cases h : wa with
              | none => rw [h] at e; simp [blk] at e
              | some x => rw [h] at e; simp [blk] at e; have := H.wn x h; omega))
          lw := H.lw.of_block (hk _ H.lw.lt (by
              intro e
              cases h : wa with
              | none => rw [h] at e; simp [blk] at e
              | some x => rw [h] at e; simp [blk] at e; have := H.wn x h; omega))
          bl := H.bl.of_block (hk _ H.bl.lt (by
              intro e
              cases h : wa with
              | none => rw [h] at e; simp [blk] at e
              | some x => rw [h] at e; simp [blk] at e; have := H.wn x h; omega))
          on := H.on.of_block (hk _ H.on.lt (by
              intro e
              cases h : wa with
              | none => rw [h] at e; simp [blk] at e
              | some x => rw [h] at e; simp [blk] at e; have := H.wn x h; omega))
          bo := H.bo.of_block (hk _ H.bo.lt (by
              intro e
              cases h : wa with
              | none => rw [h] at e; simp [blk] at e
              | some x => rw [h] at e; simp [blk] at e; have := H.wn x h; omega))
          cm := H.cm.of_block (hk _ H.cm.lt (by
              intro e
              cases h : wa with
              | none => rw [h] at e; simp [blk] at e
              | some x => rw [h] at e; simp [blk] at e; have := H.wn x h; omega))
          bs := H.bs.of_block (hk _ H.bs.lt (by
              intro e
              cases h : wa with
              | none => rw [h] at e; simp [blk] at e
              | some x => rw [h] at e; simp [blk] at e; have := H.wn x h; omega))
          vs := H.vs.of_block (hk _ H.vs.lt (by
              intro e
              cases h : wa with
              | none => rw [h] at e; simp [blk] at e
              | some x => rw [h] at e; simp [blk] at e; have := H.wn x h; omega))
          st := Sl.of_block H.st (fun y hy => hk _ (Sl.lt H.st y hy) (by
              intro e
              cases h : wa with
              | none => rw [h] at e; simp [blk] at e
              | some x => rw [h] at e; simp [blk] at e; exact H.dsw y x hy h e))
          sz := Sl.of_block H.sz (fun y hy => hk _ (Sl.lt H.sz y hy) (by
              intro e
              cases h : wa with
              | none => rw [h] at e; simp [blk] at e
              | some x => rw [h] at e; simp [blk] at e; exact H.dzw y x hy h e))
          wk := Sl.congr hS fun j _ => by
            simp only [fr, TS.pushF]
            by_cases e0 : j % 2 = 0
            · by_cases e : j = S.h * 2
              · simp [e]
              · simp [e0, e, show ¬ j = S.h * 2 + 1 by omega, show ¬ j / 2 = S.h by omega]
            · by_cases e : j = S.h * 2 + 1
              · simp [e, show (S.h * 2 + 1) / 2 = S.h by omega]
              · simp [e0, e, show ¬ j = S.h * 2 by omega, show ¬ j / 2 = S.h by omega]
          sn := H.sn
          zn := H.zn
          wn := (fun x hx => by
            rcases hn with ⟨h, _⟩ | ⟨B', h, hB⟩
            · exact H.wn x (h ▸ hx)
            · rw [h] at hx; cases hx; have := H.vs.lt; simp; omega)
          dsz := H.dsz
          dsw := (fun x y hx hy => by
            rcases hn with ⟨h, _⟩ | ⟨B', h, hB⟩
            · exact H.dsw x y hx (h ▸ hy)
            · rw [h] at hy; cases hy; have := Sl.lt H.st x hx; simp; omega)
          dzw := (fun x y hx hy => by
            rcases hn with ⟨h, _⟩ | ⟨B', h, hB⟩
            · exact H.dzw x y hx (h ▸ hy)
            · rw [h] at hy; cases hy; have := Sl.lt H.sz x hx; simp; omega) }

theorem M27.pushStack0 {w : World} {B n : Nat} {S : TS} {sa : Option Addr} {sc : Nat} {za : Option Addr} {zc : Nat} {wa : Option Addr} {wc : Nat} (H : M27 w B n S sa sc za zc wa wc) {w' : World} {a' : Option Addr} {cap' : Nat} {v : Nat} (hS : SlI w' a' (S.k + 1) cap' (fun j => if j = S.k then (v : Int) else (S.s j : Int))) (hg : w.grownBy w' (blk sa)) (hn : (a' = sa ∧ sa ≠ none) ∨ ∃ B', a' = some ⟨B', 0, none⟩ ∧ w.heap.size ≤ B') : M27 (w'.setCell ⟨B + 7, 0, none⟩ (.slice a' (S.k + 1) cap')) B n (S.pushS v) a' cap' za zc wa wc := by
  have hk : ∀ k, k < w.heap.size → (some k ≠ blk sa ∧ k ≠ B + 7) → (w'.setCell ⟨B + 7, 0, none⟩ (.slice a' (S.k + 1) cap')).heap[k]? = w.heap[k]? := fun k h1 h2 => (Deep.blk_setCell_other _ _ _ _ h2.2).trans (hg.block k h1 h2.1)
  have hs7 : w'.rowIs (B + 7) 22 1 (fun _ => .slice sa S.k sc) := H.bs.of_block (hg.block _ H.bs.lt (by
              intro e
              cases h : sa with
              | none => rw [h] at e; simp [blk] at e
              | some x => rw [h] at e; simp [blk] at e; have := H.sn x h; omega))
  have hnn : ∀ x, a' = some x → B + 9 ≤ x.block := (fun x hx => by
            rcases hn with ⟨h, _⟩ | ⟨B', h, hB⟩
            · exact H.sn x (h ▸ hx)
            · rw [h] at hx; cases hx; have := H.vs.lt; simp; omega)
  exact { ix := H.ix.of_block (hk _ H.ix.lt ⟨(by
              intro e
              cases h : sa with
              | none => rw [h] at e; simp [blk] at e
              | some x => rw [h] at e; simp [blk] at e; have := H.sn x h; omega), (by omega)⟩)
          bi := H.bi.of_block (hk _ H.bi.lt ⟨(by
              intro e
              cases h : sa with
              | none => rw [h] at e; simp [blk] at e
              | some x => rw [h] at e; simp [blk] at e; have := H.sn x h; omega), (by omega)⟩)
          lw := H.lw.of_block (hk _ H.lw.lt ⟨(by
              intro e
              cases h : sa with
              | none => rw [h] at e; simp [blk] at e
              | some x => rw [h] at e; simp [blk] at e; have := H.sn x h; omega), (by omega)⟩)
          bl := H.bl.of_block (hk _ H.bl.lt ⟨(by
              intro e
              cases h : sa with
              | none => rw [h] at e; simp [blk] at e
              | some x => rw [h] at e; simp [blk] at e; have := H.sn x h; omega), (by omega)⟩)
          on := H.on.of_block (hk _ H.on.lt ⟨(by
              intro e
              cases h : sa with
              | none => rw [h] at e; simp [blk] at e
              | some x => rw [h] at e; simp [blk] at e; have := H.sn x h; omega), (by omega)⟩)
          bo := H.bo.of_block (hk _ H.bo.lt ⟨(by
              intro e
              cases h : sa with
              | none => rw [h] at e; simp [blk] at e
              | some x => rw [h] at e; simp [blk] at e; have := H.sn x h; omega), (by omega)⟩)
          cm := H.cm.of_block (hk _ H.cm.lt ⟨(by
              intro e
              cases h : sa with
              | none => rw [h] at e; simp [blk] at e
              | some x => rw [h] at e; simp [blk] at e; have := H.sn x h; omega), (by omega)⟩)
          bs := (hs7.set 0 _).congr fun j hj => by simp [show j = 0 by omega, TS.pushS]
          vs := H.vs.of_block (hk _ H.vs.lt ⟨(by
              intro e
              cases h : sa with
              | none => rw [h] at e; simp [blk] at e
              | some x => rw [h] at e; simp [blk] at e; have := H.sn x h; omega), (by omega)⟩)
          st := Sl.other (SlI.congr hS fun i _ => by by_cases e : i = S.k <;> simp [e, TS.pushS]) (fun y hy => by have := hnn y hy; simp; omega) _
          sz := Sl.of_block H.sz (fun y hy => hk _ (Sl.lt H.sz y hy) ⟨(by
              intro e
              cases h : sa with
              | none => rw [h] at e; simp [blk] at e
              | some x => rw [h] at e; simp [blk] at e; exact H.dsz x y h hy e.symm), (by have := H.zn y hy; omega)⟩)
          wk := Sl.of_block H.wk (fun y hy => hk _ (Sl.lt H.wk y hy) ⟨(by
              intro e
              cases h : sa with
              | none => rw [h] at e; simp [blk] at e
              | some x => rw [h] at e; simp [blk] at e; exact H.dsw x y h hy e.symm), (by have := H.wn y hy; omega)⟩)
          sn := hnn
          zn := H.zn
          wn := H.wn
          dsz := (fun x y hx hy => by
            rcases hn with ⟨h, _⟩ | ⟨B', h, hB⟩
            · exact H.dsz x y (h ▸ hx) hy
            · rw [h] at hx; cases hx; have := Sl.lt H.sz y hy; simp; omega)
          dsw := (fun x y hx hy => by
            rcases hn with ⟨h, _⟩ | ⟨B', h, hB⟩
            · exact H.dsw x y (h ▸ hx) hy
            · rw [h] at hx; cases hx; have := Sl.lt H.wk y hy; simp; omega)
          dzw := H.dzw }

theorem M27.newWalk {w : World} {B n : Nat} {S : TS} {sa : Option Addr} {sc : Nat} {za : Option Addr} {zc : Nat} {wa : Option Addr} {wc : Nat} (H : M27 w B n S sa sc za zc wa wc) (h0 : S.h = 0) (v : Nat) : M27 (w.alloc (.cells #[.int .i64 (v : Int), .int .i64 0] 53)) B n (S.pushF v) sa sc za zc (some ⟨w.heap.size, 0, none⟩) 1 := by
  have K := H.alloc (.cells #[.int .i64 (v : Int), .int .i64 0] 53)
  exact { ix := K.ix, bi := K.bi, lw := K.lw, bl := K.bl, on := K.on, bo := K.bo, cm := K.cm, bs := K.bs, vs := K.vs, st := K.st, sz := K.sz
          wk := .inr ⟨w.heap.size, 0, 2, fun j => if j = 0 then .int .i64 (v : Int) else .int .i64 0, rfl, by simp [h0, TS.pushF], by omega, World.rowIs_alloc w #[.int .i64 (v : Int), .int .i64 0] 53 _ (fun i hi => by
            have : i < 2 := by simpa using hi
            match i, this with
            | 0, _ => rfl
            | 1, _ => rfl), fun i hi => by
            have hi : i < (S.h + 1) * 2 := hi
            rw [h0] at hi
            have : i < 2 := by omega
            match i, this with
            | 0, _ => simp [fr, h0, TS.pushF]
            | 1, _ => simp [fr, h0, TS.pushF]⟩
          sn := K.sn, zn := K.zn
          wn := fun x hx => by cases hx; have := H.vs.lt; simp; omega
          dsz := K.dsz
          dsw := fun x y hx hy => by cases hy; have := Sl.lt H.st x hx; simp; omega
          dzw := fun x y hx hy => by cases hy; have := Sl.lt H.sz x hx; simp; omega }
end Go.Proofs.Qxb6605452a
