/-
  What the walks say of byte slices and of keys in memory. Over any program.
-/
import Derived.WalkKit
import Derived.WalkLawsBesides
import Derived.WalkSpells
import Derived.Deep.QuietTactic
import Derived.BigQuiet
import Derived.RegionTactic
import Derived.Deep.LoopGhost
import Derived.Deep.OwnRows
namespace Go.Proofs.Qxb6605337a
open Go.RowKit

/-- The slice at a, of n elements, holds the bytes f 0 .. f (n - 1). -/
def Bytes (w : World) (a : Option Addr) (n : Nat) (f : Nat → Int) : Prop :=
  n = 0 ∨ ∃ b off, a = some ⟨b, off, none⟩ ∧ ∀ i, i < n → w.cell? ⟨b, off + i, none⟩ = some (.int .u8 (f i))

theorem Bytes.below {w w' : World} {a : Option Addr} {n : Nat} {f : Nat → Int} (h : Bytes w a n f) {B : Nat} (hb : Below B w w') (hB : w.heap.size ≤ B) : Bytes w' a n f := by
  rcases h with h | ⟨b, off, ha, hc⟩
  · exact .inl h
  · refine .inr ⟨b, off, ha, fun i hi => ?_⟩
    have hlt : b < w.heap.size := World.block_lt_of_cell? w ⟨b, off + i, none⟩ (hc i hi)
    rw [hb.cell (p := ⟨b, off + i, none⟩) (by simp; omega)]
    exact hc i hi

theorem below_drewN (w : World) (B q : Nat) : Below B w (w.drewN q) := ⟨rfl, rfl, rfl, Nat.le_refl _, fun _ _ => rfl⟩

/-- w' is w but for draws. -/
def Drn (w w' : World) : Prop := ∃ q, w' = w.drewN q
theorem Drn.refl (w : World) : Drn w w := ⟨0, rfl⟩
theorem Drn.mk (w : World) (q : Nat) : Drn w (w.drewN q) := ⟨q, rfl⟩
theorem Drn.step {w w' : World} (h : Drn w w') (n : Nat) : Drn w (w'.drewN n) := by
  obtain ⟨q, rfl⟩ := h
  exact ⟨q + n, World.drewN_drewN w q n⟩
theorem Drn.drew {w w' : World} (h : Drn w w') : Drn w w'.drew := h.step 1
theorem Drn.trans {a b c : World} (h : Drn a b) (k : Drn b c) : Drn a c := by
  obtain ⟨q, rfl⟩ := k
  exact h.step q
theorem Drn.below {w w' : World} (h : Drn w w') (B : Nat) : Below B w w' := by
  obtain ⟨q, rfl⟩ := h
  exact below_drewN w B q

/-- What the keys hold: an ID and a secret each. -/
structure KD where
  id : Nat → Int
  sl : Nat → Nat
  nl : Nat → Bool
  sb : Nat → Nat → Int

/-- A secret's header: it reads as D says. -/
def Sec (w : World) (D : KD) (i : Nat) (a : Option Addr) : Prop := a.isNone = D.nl i ∧ Bytes w a (D.sl i) (D.sb i)

/-- The slice at a, of n keys, reads as D says. -/
def Keys (w : World) (a : Option Addr) (n : Nat) (D : KD) : Prop :=
  n = 0 ∨ ∃ (b off : Nat) (sa : Nat → Option Addr) (sc : Nat → Nat), a = some ⟨b, off, none⟩ ∧ ∀ i, i < n →
    w.cell? ⟨b, off + i * 2, none⟩ = some (.int .u8 (D.id i)) ∧ w.cell? ⟨b, off + i * 2 + 1, none⟩ = some (.slice (sa i) (D.sl i) (sc i)) ∧ Sec w D i (sa i)

theorem Sec.below {w w' : World} {D : KD} {i : Nat} {a : Option Addr} (h : Sec w D i a) {B : Nat} (hb : Below B w w') (hB : w.heap.size ≤ B) : Sec w' D i a := ⟨h.1, h.2.below hb hB⟩

theorem Keys.below {w w' : World} {a : Option Addr} {n : Nat} {D : KD} (h : Keys w a n D) {B : Nat} (hb : Below B w w') (hB : w.heap.size ≤ B) : Keys w' a n D := by
  rcases h with h | ⟨b, off, sa, sc, ha, hc⟩
  · exact .inl h
  · refine .inr ⟨b, off, sa, sc, ha, fun i hi => ?_⟩
    obtain ⟨h1, h2, h3⟩ := hc i hi
    have hlt : b < w.heap.size := World.block_lt_of_cell? w ⟨b, off + i * 2, none⟩ h1
    refine ⟨?_, ?_, h3.below hb hB⟩
    · rw [hb.cell (p := ⟨b, off + i * 2, none⟩) (by simp; omega)]; exact h1
    · rw [hb.cell (p := ⟨b, off + i * 2 + 1, none⟩) (by simp; omega)]; exact h2

theorem bel_alloc {w w' : World} (h : Below w.heap.size w w') (o : Obj) : Below w.heap.size w (w'.alloc o) := h.alloc h.size o
theorem bel_trans {w w' w'' : World} (h : Below w.heap.size w w') (k : Below w'.heap.size w' w'') : Below w.heap.size w w'' := h.trans (k.mono h.size)
theorem rowIs_drewN {w : World} {b : Nat} {t : TypeId} {n : Nat} {f : Nat → Value} (h : w.rowIs b t n f) (q : Nat) : (w.drewN q).rowIs b t n f := h
theorem rowIs_below {w w' : World} {b : Nat} {t : TypeId} {n : Nat} {f : Nat → Value} (h : w.rowIs b t n f) {B : Nat} (k : Below B w w') (hb : b < B) : w'.rowIs b t n f := h.of_block (k.block b hb)
theorem bytes_of_row {w : World} {B n : Nat} {t : TypeId} {f : Nat → Int} (h : w.rowIs B t n (fun j => .int .u8 (f j))) : Bytes w (some ⟨B, 0, none⟩) n f :=
  .inr ⟨B, 0, rfl, fun i hi => by rw [Nat.zero_add]; exact h.cell hi⟩
end Go.Proofs.Qxb6605337a
