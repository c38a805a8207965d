/-
  What the walks say of slices of numbers in memory. Over any program.
-/
import Derived.WalkKit
import Derived.WalkLawsBesides
import Derived.WalkSpells
import Derived.Deep.QuietTactic
import Derived.BigQuiet
import Derived.RegionTactic
import Derived.Deep.LoopGhost
import Derived.Deep.OwnRows
namespace Go.Proofs.Qxb6605452a
open Go.RowKit

/-- The slice at a, of n elements, holds the numbers f 0 .. f (n - 1). -/
def Ints (w : World) (a : Option Addr) (n : Nat) (f : Nat → Int) : Prop :=
  n = 0 ∨ ∃ b off, a = some ⟨b, off, none⟩ ∧ ∀ i, i < n → w.cell? ⟨b, off + i, none⟩ = some (.int .i64 (f i))

/-- Each of them is an int. -/
def Wf (n : Nat) (f : Nat → Int) : Prop := ∀ i, i < n → -9223372036854775808 ≤ f i ∧ f i ≤ 9223372036854775807

theorem Ints.below {w w' : World} {a : Option Addr} {n : Nat} {f : Nat → Int} (h : Ints w a n f) {B : Nat} (hb : Below B w w') (hB : w.heap.size ≤ B) : Ints w' a n f := by
  rcases h with h | ⟨b, off, ha, hc⟩
  · exact .inl h
  · refine .inr ⟨b, off, ha, fun i hi => ?_⟩
    have hlt : b < w.heap.size := World.block_lt_of_cell? w ⟨b, off + i, none⟩ (hc i hi)
    rw [hb.cell (p := ⟨b, off + i, none⟩) (by simp; omega)]
    exact hc i hi

theorem Ints.congr {w : World} {a : Option Addr} {n : Nat} {f g : Nat → Int} (h : Ints w a n f) (e : ∀ i, i < n → f i = g i) : Ints w a n g := by
  rcases h with h | ⟨b, off, ha, hc⟩
  · exact .inl h
  · exact .inr ⟨b, off, ha, fun i hi => by rw [hc i hi, e i hi]⟩

theorem below_drewN (w : World) (B q : Nat) : Below B w (w.drewN q) := ⟨rfl, rfl, rfl, Nat.le_refl _, fun _ _ => rfl⟩

/-- w' is w but for draws. -/
def Drn (w w' : World) : Prop := ∃ q, w' = w.drewN q
theorem Drn.refl (w : World) : Drn w w := ⟨0, rfl⟩
theorem Drn.mk (w : World) (q : Nat) : Drn w (w.drewN q) := ⟨q, rfl⟩
theorem Drn.step {w w' : World} (h : Drn w w') (n : Nat) : Drn w (w'.drewN n) := by
  obtain ⟨q, rfl⟩ := h
  exact ⟨q + n, World.drewN_drewN w q n⟩
theorem Drn.drew {w w' : World} (h : Drn w w') : Drn w w'.drew := h.step 1
theorem Drn.trans {a b c : World} (h : Drn a b) (k : Drn b c) : Drn a c := by
  obtain ⟨q, rfl⟩ := k
  exact h.step q
theorem Drn.below {w w' : World} (h : Drn w w') (B : Nat) : Below B w w' := by
  obtain ⟨q, rfl⟩ := h
  exact below_drewN w B q

theorem bel_alloc {w w' : World} (h : Below w.heap.size w w') (o : Obj) : Below w.heap.size w (w'.alloc o) := h.alloc h.size o
theorem bel_trans {w w' w'' : World} (h : Below w.heap.size w w') (k : Below w'.heap.size w' w'') : Below w.heap.size w w'' := h.trans (k.mono h.size)
theorem rowIs_drewN {w : World} {b : Nat} {t : TypeId} {n : Nat} {f : Nat → Value} (h : w.rowIs b t n f) (q : Nat) : (w.drewN q).rowIs b t n f := h
theorem rowIs_below {w w' : World} {b : Nat} {t : TypeId} {n : Nat} {f : Nat → Value} (h : w.rowIs b t n f) {B : Nat} (k : Below B w w') (hb : b < B) : w'.rowIs b t n f := h.of_block (k.block b hb)
theorem ints_of_row {w : World} {B n m : Nat} {t : TypeId} {f : Nat → Int} (h : w.rowIs B t m (fun j => .int .i64 (f j))) (hn : n ≤ m) : Ints w (some ⟨B, 0, none⟩) n f :=
  .inr ⟨B, 0, rfl, fun i hi => by rw [Nat.zero_add]; exact h.cell (by omega)⟩

/-- The slice at a, of n rows: row i has ol i numbers, f i 0 .. -/
def Rows (w : World) (a : Option Addr) (n : Nat) (ol : Nat → Nat) (f : Nat → Nat → Int) : Prop :=
  n = 0 ∨ ∃ (b off : Nat) (sa : Nat → Option Addr) (sc : Nat → Nat), a = some ⟨b, off, none⟩ ∧ ∀ i, i < n →
    w.cell? ⟨b, off + i, none⟩ = some (.slice (sa i) (ol i) (sc i)) ∧ Ints w (sa i) (ol i) (f i) ∧ ((sa i).isNone = true → ol i = 0)

theorem Rows.below {w w' : World} {a : Option Addr} {n : Nat} {ol : Nat → Nat} {f : Nat → Nat → Int} (h : Rows w a n ol f) {B : Nat} (hb : Below B w w') (hB : w.heap.size ≤ B) : Rows w' a n ol f := by
  rcases h with h | ⟨b, off, sa, sc, ha, hc⟩
  · exact .inl h
  · refine .inr ⟨b, off, sa, sc, ha, fun i hi => ?_⟩
    obtain ⟨h1, h2, h3⟩ := hc i hi
    have hlt : b < w.heap.size := World.block_lt_of_cell? w ⟨b, off + i, none⟩ h1
    refine ⟨?_, h2.below hb hB, h3⟩
    rw [hb.cell (p := ⟨b, off + i, none⟩) (by simp; omega)]; exact h1

/-- Some bool is returned, the world is as it was but for draws; where it is true, Q holds. -/
def RetQ (w : World) (Q : Prop) (e : Ending) (w' : World) : Prop := ∃ r : Bool, e = .returned (.bool r) ∧ Drn w w' ∧ (r = true → Q)

end Go.Proofs.Qxb6605452a
